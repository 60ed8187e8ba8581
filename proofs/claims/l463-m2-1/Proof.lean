import JvmDerived
import JvmDerived.Pilot.@@N@@Statement
import JvmDerived.Pilot.@@N@@Code
set_option linter.unusedVariables false
set_option linter.unusedSimpArgs false
namespace Jvm.OwnKit
open Sem ClassFile Op Lib Jvm.Stand Jvm.Free Jvm.LawKit Jvm.RoadKit
theorem irem_mod (x y : Int32) : x - x / y * y = x % y := by
  have hm : (x % y).toInt = x.toInt - x.toInt.tdiv y.toInt * y.toInt := by
    rw [Int32.toInt_mod, Int.tmod_def, Int.mul_comm]
  have hb := Int32.toInt_lt (x % y)
  have hl := Int32.le_toInt (x % y)
  have e : (x - x / y * y).toInt = (x % y).toInt.bmod (2 ^ 32) := by
    rw [hm, Int32.toInt_sub, Int32.toInt_mul, Int32.toInt_div, Int.sub_bmod_bmod, Int.sub_eq_add_neg, Int.sub_eq_add_neg]
    rw [← Int.add_bmod_bmod, ← Int.add_bmod_bmod (y := -(x.toInt.tdiv y.toInt * y.toInt))]
    congr 2
    rw [← Int.neg_mul, ← Int.neg_mul]
    rw [← Int.bmod_mul_bmod, Int.bmod_neg_bmod, Int.bmod_mul_bmod]
  apply Int32.toInt_inj.mp
  rw [e]
  exact Int.bmod_eq_of_le_mul_two (by omega) (by omega)
/-- what a body's end says -/
def Done (s : State) (below : List Frame) (Q : Option Value → Heap → List Loc → Prop) (C S : Nat) (t : State) (o : Outcome) : Prop :=
  t.status = .running ∧ Ended t below o ∧ ∃ v L, o = .returned v ∧ Q v t.heap L ∧ FrameEnd s o t L C S
/-- from here the run ends as asked -/
def Go (tb : Tables) (e : Env) (below : List Frame) (s : State) (Q : Option Value → Heap → List Loc → Prop) (C S : Nat) (A : State) : Prop :=
  ∃ t o, Steps tb e below A t ∧ Done s below Q C S t o
theorem Go.of {tb : Tables} {e : Env} {below : List Frame} {s : State} {Q : Option Value → Heap → List Loc → Prop} {C S : Nat} {A B : State}
    (g : ∀ t, Steps tb e below B t → Steps tb e below A t) (h : Go tb e below s Q C S B) : Go tb e below s Q C S A := by
  obtain ⟨t, o, h1, h2⟩ := h
  exact ⟨t, o, g t h1, h2⟩
theorem Go.join {tb : Tables} {e : Env} {below : List Frame} {s : State} {Q : Option Value → Heap → List Loc → Prop} {C S : Nat} {A : State} {α : Type} {P : α → Prop} {F : α → State}
    (h1 : ∀ x, P x → Go tb e below s Q C S (F x)) (h2 : (∀ x, P x → Go tb e below s Q C S (F x)) → Go tb e below s Q C S A) : Go tb e below s Q C S A := h2 h1
theorem Go.loop {tb : Tables} {e : Env} {below : List Frame} {s : State} {Q : Option Value → Heap → List Loc → Prop} {C S : Nat} {α : Type} {P : Nat → α → Prop} {F : α → State}
    (h : ∀ k x, P k x → (∀ j y, j < k → P j y → Go tb e below s Q C S (F y)) → Go tb e below s Q C S (F x)) : ∀ k x, P k x → Go tb e below s Q C S (F x) := by
  intro k
  induction k using Nat.strongRecOn with
  | ind k ih => exact fun x hp => h k x hp fun j y hj hy => ih j hj y hy
section Ret
variable {p : Program} {l : Launch} {e : Env} {R : Room} {s : State} {m : MethodId} {args : Array Value} {below : List Frame} {meth : Method} {c : Code} {T : State} {locs : List Loc} {cells slots : Nat} {Q : Option Value → Heap → List Loc → Prop} {C S : Nat}
theorem Go.retV (X : Stand p l e R s m args below meth c T locs cells slots) (hx : p.tables.exec = Jvm.exec) (hlk : meth.locks = false) {pc : Nat} {Ls : Array Slot} {st : List Value} (hret : meth.sig.returnType = none)
    (hd : decode c.code pc = .ok (.return_, 1)) (hs : st = []) (hc : cells ≤ C) (hn : slots ≤ S) (hq : Q none T.heap locs) : Go p.tables e below s Q C S (T.setTop (mkF m pc Ls st)) := by
  subst hs
  obtain ⟨fs, hr, hrun, hended, hW, hsame⟩ := X.leave (v := none) (fun _ => rfl)
  exact ⟨_, _, X.returnOut hx hret hd hr, hrun, hended, _, _, rfl, hq, ⟨_, rfl⟩, hW, hsame.mono hc hn⟩
theorem Go.retW (X : Stand p l e R s m args below meth c T locs cells slots) (hx : p.tables.exec = Jvm.exec) (hlk : meth.locks = false) {pc : Nat} {Ls : Array Slot} {w : Value} {t : FieldType} {i : Instr} {rest : List Value}
    (hret : meth.sig.returnType = some t) (hn : narrow t w = w)
    (hi : (i = .ireturn ∧ (t = .int ∨ t = .boolean ∨ t = .byte ∨ t = .char ∨ t = .short) ∧ ∃ z, w = .int z) ∨ (i = .lreturn ∧ t = .long ∧ ∃ z, w = .long z) ∨ (i = .dreturn ∧ t = .double ∧ ∃ z, w = .double z) ∨ (i = .freturn ∧ t = .float ∧ ∃ z, w = .float z) ∨ (i = .areturn ∧ t.isReference = true ∧ w.isRef = true))
    (hd : decode c.code pc = .ok (i, 1)) (hc : cells ≤ C) (hsl : slots ≤ S) (hq : Q (some w) T.heap locs) : Go p.tables e below s Q C S (T.setTop (mkF m pc Ls (w :: rest))) := by
  obtain ⟨fs, hr, hrun, hended, hW, hsame⟩ := X.leave (v := some w) (fun h => by rw [hret] at h; cases h)
  exact ⟨_, _, retOut X hx hret hn hi hd hr, hrun, hended, _, _, rfl, hq, ⟨_, rfl⟩, hW, hsame.mono hc hsl⟩
theorem Go.retI (X : Stand p l e R s m args below meth c T locs cells slots) (hx : p.tables.exec = Jvm.exec) (hlk : meth.locks = false) {pc : Nat} {Ls : Array Slot} {z : Int32} {rest : List Value}
    (hret : meth.sig.returnType = some .int) (hd : decode c.code pc = .ok (.ireturn, 1)) (hc : cells ≤ C) (hsl : slots ≤ S) (hq : Q (some (.int z)) T.heap locs) : Go p.tables e below s Q C S (T.setTop (mkF m pc Ls (.int z :: rest))) :=
  Go.retW X hx hlk hret rfl (Or.inl ⟨rfl, Or.inl rfl, _, rfl⟩) hd hc hsl hq
theorem Go.retZ (X : Stand p l e R s m args below meth c T locs cells slots) (hx : p.tables.exec = Jvm.exec) (hlk : meth.locks = false) {pc : Nat} {Ls : Array Slot} {z : Int32} {rest : List Value} {t : FieldType}
    (hret : meth.sig.returnType = some t) (ht : t = .boolean ∨ t = .byte ∨ t = .char ∨ t = .short) (hd : decode c.code pc = .ok (.ireturn, 1)) (hc : cells ≤ C) (hsl : slots ≤ S) (hq : Q (some (.int (nar t z))) T.heap locs) : Go p.tables e below s Q C S (T.setTop (mkF m pc Ls (.int z :: rest))) := by
  obtain ⟨fs, hr, hrun, hended, hW, hsame⟩ := X.leave (v := some (.int (nar t z))) (fun h => by rw [hret] at h; cases h)
  exact ⟨_, _, retN X hx hret ht hd hr, hrun, hended, _, _, rfl, hq, ⟨_, rfl⟩, hW, hsame.mono hc hsl⟩
theorem Go.retL (X : Stand p l e R s m args below meth c T locs cells slots) (hx : p.tables.exec = Jvm.exec) (hlk : meth.locks = false) {pc : Nat} {Ls : Array Slot} {z : Int64} {rest : List Value}
    (hret : meth.sig.returnType = some .long) (hd : decode c.code pc = .ok (.lreturn, 1)) (hc : cells ≤ C) (hsl : slots ≤ S) (hq : Q (some (.long z)) T.heap locs) : Go p.tables e below s Q C S (T.setTop (mkF m pc Ls (.long z :: rest))) :=
  Go.retW X hx hlk hret rfl (Or.inr (Or.inl ⟨rfl, rfl, _, rfl⟩)) hd hc hsl hq
theorem Go.retA (X : Stand p l e R s m args below meth c T locs cells slots) (hx : p.tables.exec = Jvm.exec) (hlk : meth.locks = false) {pc : Nat} {Ls : Array Slot} {w : Value} {rest : List Value} {t : FieldType}
    (hret : meth.sig.returnType = some t) (ht : t.isReference = true) (hw : w.isRef = true) (hd : decode c.code pc = .ok (.areturn, 1)) (hc : cells ≤ C) (hsl : slots ≤ S) (hq : Q (some w) T.heap locs) : Go p.tables e below s Q C S (T.setTop (mkF m pc Ls (w :: rest))) :=
  Go.retW X hx hlk hret (by cases t <;> first | rfl | (simp [FieldType.isReference] at ht)) (Or.inr (Or.inr (Or.inr (Or.inr ⟨rfl, ht, hw⟩)))) hd hc hsl hq
end Ret
/-- the contract of a body, by its walk -/
theorem meet {l : Launch} {Z : State} {y : MethodName} {bytes : ByteArray} {maxL : Nat} {ret : Option FieldType} {ws : List Cond} {rm : Room} {as : Array Value} {Ls : Array Slot} {h0 : Heap} {Q : Option Value → Heap → List Loc → Prop}
    (hpl : plainFor y = true) (ef : ∀ m, entryFrame m as maxL = mkF m 0 Ls [])
    (body : ∀ (p : Program) (e : Env) (s : State) (m : MethodId) (below : List Frame) (meth : Method) (c : Code) (T : State), p.tables.exec = Jvm.exec → c.code = bytes → c.maxLocals = maxL → Z.Warmed39 s.vm → s.vm.findClass y.cls = some m.cls → meth.name = y.name →
      meth.sig.returnType = ret → meth.locks = false → Stand p l e rm s m as below meth c T [] 0 0 → T.heap = h0 → Go p.tables e below s Q rm.cells rm.slots (T.setTop (mkF m 0 Ls []))) :
    MetFree l y (head1 (Cond.code y bytes maxL ret :: ws) rm) (fun a U => a = as ∧ Z.Warmed39 U.vm ∧ U.heap = h0) (fun _ _ _ _ _ => True) (fun _ U o U' => ∃ v L, o = .returned v ∧ Q v U'.heap L ∧ FrameEnd U o U' L rm.cells rm.slots) := by
  refine MetFree.of_bodySF hpl hisR ?_
  intro p e s m args below meth c s₁ Bd hml0 hP hK
  obtain ⟨rfl, hZ, hh⟩ := hP
  obtain ⟨t, o, h1, h2, h3, h4⟩ := body p e s m below meth c s₁ Bd.exec Bd.bytes hml0 hZ (findClass_of_methodNamed Bd.named) (name_of_methodNamed Bd.named Bd.method).1 Bd.returns Bd.notSynchronized (Stand.of_body Bd) (by rw [← hh, Bd.state]; rfl)
  exact ⟨t, o, castTop (ef m) h1, h2, h3, h4⟩
/-- what a callee's contract says -/
abbrev Con (l : Launch) (Z : State) (y : MethodName) (bytes : ByteArray) (maxL : Nat) (ret : Option FieldType) (rm : Room) (as : Array Value) (h0 : Heap) (Q : Option Value → Heap → List Loc → Prop) : Prop :=
  MetFree l y (head1 [Cond.code y bytes maxL ret] rm) (fun a U => a = as ∧ Z.Warmed39 U.vm ∧ U.heap = h0) (fun _ _ _ _ _ => True) (fun _ U o U' => ∃ v L, o = .returned v ∧ Q v U'.heap L ∧ FrameEnd U o U' L rm.cells rm.slots)
section Call
variable {p : Program} {l : Launch} {e : Env} {R : Room} {s : State} {m : MethodId} {args : Array Value} {below : List Frame} {meth : Method} {c : Code} {T : State} {locs : List Loc} {cells slots : Nat} {Q : Option Value → Heap → List Loc → Prop} {C S : Nat} {Z : State} {a0 : Array Value} {h : Heap}
theorem Go.callS (X : Stand p l e R s m args below meth c T locs cells slots) (hx : p.tables.exec = Jvm.exec) (hZ : Z.Warmed39 s.vm) {own : String} {index : Nat} {y : MethodName} {bytes : ByteArray} {maxL : Nat} {ret : Option FieldType} {rm : Room} {Q' : Option Value → Heap → List Loc → Prop}
    (hown : s.vm.findClass own = some m.cls) (w1 : (Cond.methodLink own index y).before a0 Z = true) (w2 : (Cond.static y).before a0 Z = true) (w3 : (Cond.initialized y.cls).before a0 Z = true)
    (w4 : (Cond.code y bytes maxL ret).before a0 Z = true) (hy : y.cls ≠ "java/lang/invoke/MethodHandle" ∧ y.cls ≠ "java/lang/invoke/VarHandle")
    (eT : T.heap = h) {pc : Nat} {Ls : Array Slot} {argsL rest st : List Value} {W : Nat} {ps : List FieldType} (hM : Con l Z y bytes maxL ret rm argsL.toArray h Q') (hd : decode c.code pc = .ok (.invokestatic index, 3))
    (hsz : Ls.size = c.maxLocals) (hst : st = argsL.reverse ++ rest) (hpd : parseMethodDescriptor y.desc = some ⟨ps, ret⟩) (hlen : argsL.length = ps.length) (hW : (rest.map fun v => v.category).sum = W)
    (hf : rm.frames + 1 ≤ R.frames) (hl : W + (maxL + 11) + rm.locals ≤ R.locals) (hc : cells + rm.cells ≤ R.cells) (hn : slots + rm.slots ≤ R.slots)
    (k : ∀ (v : Option Value) (T' : State) (L' : List Loc), Stand p l e R s m args below meth c T' (locs ++ L') (cells + rm.cells) (slots + rm.slots) → Q' v T'.heap L' → Go p.tables e below s Q C S (T'.setTop (mkF m (pc + 3) Ls (v.toList ++ rest)))) :
    Go p.tables e below s Q C S (T.setTop (mkF m pc Ls st)) := by
  obtain ⟨v, _, ⟨T', L', kc, kn⟩, -, X', ⟨Lc, hQ, l3, y3, z3⟩, st⟩ := Jvm.LawKit.callS X hx hown (mvT hZ w1) (mvT hZ w2) (mvT hZ w3) (mvT hZ w4) hy (backOf (W := W) hM hZ w4 w3 hf hl) (g := mkF m pc Ls st) rfl hsz (argsL := argsL) (rest := rest) (lenOf hpd hlen) hst (by show 2 * 0 + _ ≤ _; rw [hW]; omega) hd (fun _ _ => ⟨rfl, eT, hc, hn⟩)
  dsimp only [Pt.U, Pt.locs, Pt.cells, Pt.slots] at X' l3 y3 z3 st hQ
  subst l3 y3 z3
  exact Go.of st (k v T' Lc X' hQ)
theorem Go.callI (X : Stand p l e R s m args below meth c T locs cells slots) (hx : p.tables.exec = Jvm.exec) (hZ : Z.Warmed39 s.vm) {own : String} {index : Nat} {y : MethodName} {bytes : ByteArray} {maxL : Nat} {rm : Room} {Q' : Option Value → Heap → List Loc → Prop}
    (hown : s.vm.findClass own = some m.cls) (hy1 : y.name = "<init>") (w1 : (Cond.methodLink own index y).before a0 Z = true) (w2 : (Cond.instanceMethod y).before a0 Z = true) (w3 : (Cond.initialized y.cls).before a0 Z = true)
    (w4 : (Cond.code y bytes maxL none).before a0 Z = true) (hy : y.cls ≠ "java/lang/invoke/MethodHandle" ∧ y.cls ≠ "java/lang/invoke/VarHandle")
    (eT : T.heap = h) {pc : Nat} {Ls : Array Slot} {a : Addr} {argsL rest st : List Value} {W : Nat} {ps : List FieldType} (hM : Con l Z y bytes maxL none rm (.ref a :: argsL).toArray h Q') (hd : decode c.code pc = .ok (.invokespecial index, 3))
    (hsz : Ls.size = c.maxLocals) (hst : st = argsL.reverse ++ .ref a :: rest) (hpd : parseMethodDescriptor y.desc = some ⟨ps, none⟩) (hlen : argsL.length = ps.length) (hW : (rest.map fun v => v.category).sum = W)
    (hf : rm.frames + 1 ≤ R.frames) (hl : W + (maxL + 11) + rm.locals ≤ R.locals) (hc : cells + rm.cells ≤ R.cells) (hn : slots + rm.slots ≤ R.slots)
    (k : ∀ (v : Option Value) (T' : State) (L' : List Loc), Stand p l e R s m args below meth c T' (locs ++ L') (cells + rm.cells) (slots + rm.slots) → Q' v T'.heap L' → Go p.tables e below s Q C S (T'.setTop (mkF m (pc + 3) Ls (v.toList ++ rest)))) :
    Go p.tables e below s Q C S (T.setTop (mkF m pc Ls st)) := by
  obtain ⟨v, _, ⟨T', L', kc, kn⟩, -, X', ⟨Lc, hQ, l3, y3, z3⟩, st⟩ := X.specialBack hx hy1 hown (mvT hZ w1) (mvT hZ w2) (mvT hZ w4) hy (backOf (W := W) hM hZ w4 w3 hf hl) (g := mkF m pc Ls st) rfl hsz (Steps.refl _) (a := a) (argsL := argsL) (rest := rest) (lenOf hpd hlen) hst (by show 2 * 0 + _ ≤ _; rw [hW]; omega) hd (fun _ _ => ⟨rfl, eT, hc, hn⟩)
  dsimp only [Pt.U, Pt.locs, Pt.cells, Pt.slots] at X' l3 y3 z3 st hQ
  subst l3 y3 z3
  exact Go.of (fun _ q => st.trans q) (k v T' Lc X' hQ)
theorem Go.callV (X : Stand p l e R s m args below meth c T locs cells slots) (hx : p.tables.exec = Jvm.exec) (hZ : Z.Warmed39 s.vm) {own K : String} {index : Nat} {y z : MethodName} {bytes : ByteArray} {maxL : Nat} {ret : Option FieldType} {rm : Room} {Q' : Option Value → Heap → List Loc → Prop}
    (hown : s.vm.findClass own = some m.cls) (w1 : (Cond.methodLink own index y).before a0 Z = true) (w2 : (Cond.declares y).before a0 Z = true) (nf : NotFace s y) (w5 : (Cond.selects K y z).before a0 Z = true) (w6 : (Cond.instanceMethod z).before a0 Z = true) (w3 : (Cond.initialized z.cls).before a0 Z = true)
    (w4 : (Cond.code z bytes maxL ret).before a0 Z = true) (hy : y.cls ≠ "java/lang/invoke/MethodHandle" ∧ y.cls ≠ "java/lang/invoke/VarHandle")
    (eT : T.heap = h) {pc : Nat} {Ls : Array Slot} {a : Addr} {argsL rest st : List Value} {W : Nat} {ps : List FieldType} {rt : Option FieldType} (E : Exa Z h a K) (hM : Con l Z z bytes maxL ret rm (.ref a :: argsL).toArray h Q') (hd : decode c.code pc = .ok (.invokevirtual index, 3))
    (hsz : Ls.size = c.maxLocals) (hst : st = argsL.reverse ++ .ref a :: rest) (hpd : parseMethodDescriptor y.desc = some ⟨ps, rt⟩) (hlen : argsL.length = ps.length) (hW : (rest.map fun v => v.category).sum = W)
    (hf : rm.frames + 1 ≤ R.frames) (hl : W + (maxL + 11) + rm.locals ≤ R.locals) (hc : cells + rm.cells ≤ R.cells) (hn : slots + rm.slots ≤ R.slots)
    (k : ∀ (v : Option Value) (T' : State) (L' : List Loc), Stand p l e R s m args below meth c T' (locs ++ L') (cells + rm.cells) (slots + rm.slots) → Q' v T'.heap L' → Go p.tables e below s Q C S (T'.setTop (mkF m (pc + 3) Ls (v.toList ++ rest)))) :
    Go p.tables e below s Q C S (T.setTop (mkF m pc Ls st)) := by
  obtain ⟨cq, kq, qa, qb, qc⟩ := isOf hZ eT E
  obtain ⟨v, _, ⟨T', L', kc, kn⟩, -, X', ⟨Lc, hQ, l3, y3, z3⟩, st⟩ := X.virtualBack hx (y := y) (z := z) hown (mvT hZ w1) (mvT hZ w2) nf (mvT hZ w5) (mvT hZ w6) hy (backOf (W := W) hM hZ w4 w3 hf hl) qa qc (g := mkF m pc Ls st) rfl hsz (Steps.refl _) (argsL := argsL) (rest := rest) (lenOf hpd hlen) hst (by show 2 * 0 + _ ≤ _; rw [hW]; omega) hd (fun _ _ => ⟨rfl, eT, hc, hn⟩)
  dsimp only [Pt.U, Pt.locs, Pt.cells, Pt.slots] at X' l3 y3 z3 st hQ
  subst l3 y3 z3
  exact Go.of (fun _ q => st.trans q) (k v T' Lc X' hQ)
/-- a private method by invokevirtual -/
theorem Go.callP (X : Stand p l e R s m args below meth c T locs cells slots) (hx : p.tables.exec = Jvm.exec) (hZ : Z.Warmed39 s.vm) {own K : String} {index : Nat} {y : MethodName} {bytes : ByteArray} {maxL : Nat} {ret : Option FieldType} {rm : Room} {Q' : Option Value → Heap → List Loc → Prop}
    (hown : s.vm.findClass own = some m.cls) (w1 : (Cond.methodLink own index y).before a0 Z = true) (w6 : (Cond.instanceMethod y).before a0 Z = true) {kk : Nat} (w5 : (Cond.instantiable y.cls kk).before a0 Z = true) (w7 : (Cond.privateMethod y).before a0 Z = true) (w3 : (Cond.initialized y.cls).before a0 Z = true)
    (w4 : (Cond.code y bytes maxL ret).before a0 Z = true) (hy : y.cls ≠ "java/lang/invoke/MethodHandle" ∧ y.cls ≠ "java/lang/invoke/VarHandle")
    (eT : T.heap = h) {pc : Nat} {Ls : Array Slot} {a : Addr} {argsL rest st : List Value} {W : Nat} {ps : List FieldType} {rt : Option FieldType} (E : Exa Z h a K) (hM : Con l Z y bytes maxL ret rm (.ref a :: argsL).toArray h Q') (hd : decode c.code pc = .ok (.invokevirtual index, 3))
    (hsz : Ls.size = c.maxLocals) (hst : st = argsL.reverse ++ .ref a :: rest) (hpd : parseMethodDescriptor y.desc = some ⟨ps, rt⟩) (hlen : argsL.length = ps.length) (hW : (rest.map fun v => v.category).sum = W)
    (hf : rm.frames + 1 ≤ R.frames) (hl : W + (maxL + 11) + rm.locals ≤ R.locals) (hc : cells + rm.cells ≤ R.cells) (hn : slots + rm.slots ≤ R.slots)
    (k : ∀ (v : Option Value) (T' : State) (L' : List Loc), Stand p l e R s m args below meth c T' (locs ++ L') (cells + rm.cells) (slots + rm.slots) → Q' v T'.heap L' → Go p.tables e below s Q C S (T'.setTop (mkF m (pc + 3) Ls (v.toList ++ rest)))) :
    Go p.tables e below s Q C S (T.setTop (mkF m pc Ls st)) := by
  obtain ⟨cq, q1, q2⟩ := E.cell
  obtain ⟨c2, k2, i1, i2, -, i4, -⟩ := Cond.instantiable_spec (mvT (args := args) hZ w5)
  have hpv : s.PrivateAt y := Cond.privateMethod_at (mvP hZ w7 (args := #[]))
  have hsel : (Cond.selects y.cls y y).before args s = true := selects_self_of_private i1 i2 (by simpa using (Bool.or_eq_false_iff.mp i4).1) hpv (mvT hZ w6) hy
  obtain ⟨v, _, ⟨T', L', kc, kn⟩, -, X', ⟨Lc, hQ, l3, y3, z3⟩, st⟩ := X.privateBack hx (y := y) hown (mvT hZ w1) (mvT hZ w6) hsel hpv (mvT hZ w4) hy (backOf (W := W) hM hZ w4 w3 hf hl) (g := mkF m pc Ls st) rfl hsz (Steps.refl _) (a := a) (by rw [eT]; exact q1) q2 (argsL := argsL) (rest := rest) (lenOf hpd hlen) hst (by show 2 * 0 + _ ≤ _; rw [hW]; omega) hd (fun _ _ => ⟨rfl, eT, hc, hn⟩)
  dsimp only [Pt.U, Pt.locs, Pt.cells, Pt.slots] at X' l3 y3 z3 st hQ
  subst l3 y3 z3
  exact Go.of (fun _ q => st.trans q) (k v T' Lc X' hQ)
end Call
/-- an array of n places, place i holding f i -/
def ArF (Z : State) (h : Heap) (a : Addr) (ty : FieldType) (n : Nat) (f : Nat → Value) : Prop :=
  ∃ cl : Cell, Arr Z h a cl ty ∧ cl.slots.size = n ∧ n < 2 ^ 31 ∧ (∀ i, i < n → cl.slots[i]? = some (f i)) ∧ ∀ i, i < n → fits ty (f i) = true
def upV (f : Nat → Value) (j : Nat) (v : Value) (i : Nat) : Value := if i = j then v else f i
def upI (f : Nat → Int32) (j : Nat) (v : Int32) (i : Nat) : Int32 := if i = j then v else f i
def upJ (f : Nat → Int64) (j : Nat) (v : Int64) (i : Nat) : Int64 := if i = j then v else f i
def upD (f : Nat → UInt64) (j : Nat) (v : UInt64) (i : Nat) : UInt64 := if i = j then v else f i
section ArF
variable {Z : State} {h h' : Heap} {a b : Addr} {ty : FieldType} {n : Nat} {f : Nat → Value} {sl : Nat} {v : Value} {ws : List Addr}
theorem ArF.lt (F : ArF Z h a ty n f) : a < h.size := by obtain ⟨c, A, -⟩ := F; exact A.lt
theorem ArF.ext (F : ArF Z h a ty n f) (E : Ext h h') : ArF Z h' a ty n f := by obtain ⟨c, A, r⟩ := F; exact ⟨c, A.ext E, r⟩
theorem ArF.other (F : ArF Z h b ty n f) (W : Wr h h' a sl v) (q : b ≠ a) : ArF Z h' b ty n f := by obtain ⟨c, A, r⟩ := F; exact ⟨c, A.other W q, r⟩
theorem ArF.keep (F : ArF Z h a ty n f) (K : Keep h h' ws) (q : a ∉ ws) : ArF Z h' a ty n f := by obtain ⟨c, A, r⟩ := F; exact ⟨c, ⟨K.2.1 a c A.1 q, A.2⟩, r⟩
theorem ArF.len (F : ArF Z h a ty n f) : n < 2 ^ 31 := by obtain ⟨c, A, r1, r2, -⟩ := F; exact r2
theorem ArF.fit (F : ArF Z h a ty n f) {i : Nat} (hi : i < n) : fits ty (f i) = true := by obtain ⟨c, A, r1, r2, r3, r4⟩ := F; exact r4 i hi
theorem ArF.congr {g : Nat → Value} (F : ArF Z h a ty n f) (q : ∀ i, i < n → g i = f i) : ArF Z h a ty n g := by
  obtain ⟨c, A, r1, r2, r3, r4⟩ := F
  exact ⟨c, A, r1, r2, fun i hi => by rw [q i hi]; exact r3 i hi, fun i hi => by rw [q i hi]; exact r4 i hi⟩
theorem ArF.new {k : ClassId} {z : Int32} (A : Arr Z h a (newA k ty z) ty) (hn : ¬ z < 0) (hz : z.toNatClampNeg = n) : ArF Z h a ty n (fun _ => defaultValue ty) := by
  subst hz
  refine ⟨_, A, sz_new _ _ _, (back32 hn).2, fun i hi => ?_, fun i hi => by cases ty <;> rfl⟩
  simp [newA, hi]
theorem ArF.set {x : Nat} (F : ArF Z h a ty n f) (hv : fits ty v = true) (W : Wr h h' a x v) : ArF Z h' a ty n (upV f x v) := by
  obtain ⟨c, A, r1, r2, r3, r4⟩ := F
  refine ⟨_, A.same W, by simp [Cell.setSlot, r1], r2, fun i hi => ?_, fun i hi => ?_⟩
  · by_cases e : i = x
    · subst e; simp [upV, Cell.setSlot, r1, hi]
    · simp only [upV, e, if_false, Cell.setSlot]
      rw [Array.getElem?_setIfInBounds_ne (Ne.symm e)]; exact r3 i hi
  · by_cases e : i = x
    · simp [upV, e, hv]
    · simp only [upV, e, if_false]; exact r4 i hi
theorem ArF.arv (F : ArF Z h a ty n f) (d : Value) : ∃ k, Arv Z h a k ty n.toInt32 ((List.range n).map f) d := by
  obtain ⟨c, A, r1, r2, r3, r4⟩ := F
  have hz : (n.toInt32).toInt = n := len_toInt r2
  have hz0 : (0 : Int32).toInt = 0 := rfl
  have hg : ∀ i, i < n → ((List.range n).map f).getD i d = f i := fun i hi => by simp [List.getD, hi]
  refine ⟨c.cls, c, A, rfl, ?_, by rw [Int32.lt_iff_toInt_lt]; omega, fun i hi => ?_, fun i hi => ?_⟩
  · rw [r1, Int32.toNatClampNeg]; omega
  · rw [r1] at hi; rw [hg i hi]; exact r3 i hi
  · rw [r1] at hi; rw [hg i hi]; exact r4 i hi
theorem arF_of_arv {k : ClassId} {z : Int32} {vs : List Value} {d : Value} (F : Arv Z h a k ty z vs d) : ArF Z h a ty z.toNatClampNeg (fun i => vs.getD i d) := by
  obtain ⟨c, A, -, r2, r3, r4, r5⟩ := F
  exact ⟨c, A, r2, (back32 r3).2, fun i hi => r4 i (by rw [r2]; exact hi), fun i hi => r5 i (by rw [r2]; exact hi)⟩
/-- n places of f from sp on, laid over f' from dp on -/
def cpF (f f' : Nat → Value) (sp dp nn : Nat) (i : Nat) : Value := if dp ≤ i ∧ i < dp + nn then f (sp + (i - dp)) else f' i
def cpT {α : Type} (f f' : Nat → α) (sp dp nn : Nat) (i : Nat) : α := if dp ≤ i ∧ i < dp + nn then f (sp + (i - dp)) else f' i
theorem ArF.cpI {g g' : Nat → Int32} {x y z : Nat} (F : ArF Z h a ty n (cpF (fun i => .int (g i)) (fun i => .int (g' i)) x y z)) : ArF Z h a ty n (fun i => .int (cpT g g' x y z i)) := F.congr fun i _ => by simp only [cpF, cpT]; split <;> rfl
theorem ArF.cpJ {g g' : Nat → Int64} {x y z : Nat} (F : ArF Z h a ty n (cpF (fun i => .long (g i)) (fun i => .long (g' i)) x y z)) : ArF Z h a ty n (fun i => .long (cpT g g' x y z i)) := F.congr fun i _ => by simp only [cpF, cpT]; split <;> rfl
theorem ArF.cpD {g g' : Nat → UInt64} {x y z : Nat} (F : ArF Z h a ty n (cpF (fun i => .double (g i)) (fun i => .double (g' i)) x y z)) : ArF Z h a ty n (fun i => .double (cpT g g' x y z i)) := F.congr fun i _ => by simp only [cpF, cpT]; split <;> rfl
theorem nat_idx {j : Int32} {k : Nat} (hj : j.toInt = (k : Int)) : j.toNatClampNeg = k := by simp only [Int32.toNatClampNeg]; omega
theorem in_idx {j : Int32} {k : Nat} {c : Cell} (hj : j.toInt = (k : Int)) (hk : k < n) (e : c.slots.size = n) : ¬ (j < 0 ∨ c.slots.size ≤ j.toNatClampNeg) := by
  rw [nat_idx hj, e, Int32.lt_iff_toInt_lt]
  have : (0 : Int32).toInt = 0 := rfl
  omega
end ArF
section ArrSteps
variable {p : Program} {l : Launch} {e : Env} {R : Room} {s : State} {m : MethodId} {args : Array Value} {below : List Frame} {meth : Method} {c : Code} {T : State} {locs : List Loc} {cells slots : Nat} {Q : Option Value → Heap → List Loc → Prop} {C S : Nat} {Z : State} {a0 : Array Value} {h : Heap} {a : Addr} {n : Nat} {j : Int32} {pc : Nat} {Ls : Array Slot} {rest : List Value}
theorem Go.alen (X : Stand p l e R s m args below meth c T locs cells slots) (hx : p.tables.exec = Jvm.exec) (hZ : Z.Warmed39 s.vm) (eT : T.heap = h) {ty : FieldType} {f : Nat → Value} (F : ArF Z h a ty n f) (hd : decode c.code pc = .ok (.arraylength, 1))
    (kk : Go p.tables e below s Q C S (T.setTop (mkF m (pc + 1) Ls (.int n.toInt32 :: rest)))) : Go p.tables e below s Q C S (T.setTop (mkF m pc Ls (.ref a :: rest))) := by
  obtain ⟨cl, A, r1, r2, -⟩ := F
  subst r1
  exact Go.of (fun t q => X.arraylength hx (by rw [eT]; exact A.1) (State.isArrayOf_alike hZ.alike A.2.1) (g := mkF m pc Ls (.ref a :: rest)) rfl rfl hd t q) kk
theorem Go.iaload (X : Stand p l e R s m args below meth c T locs cells slots) (hx : p.tables.exec = Jvm.exec) (hZ : Z.Warmed39 s.vm) (eT : T.heap = h) {f : Nat → Int32} (F : ArF Z h a .int n (fun i => .int (f i))) {k : Nat} (hj : j.toInt = (k : Int)) (hk : k < n) (hd : decode c.code pc = .ok (.iaload, 1))
    (kk : Go p.tables e below s Q C S (T.setTop (mkF m (pc + 1) Ls (.int (f k) :: rest)))) : Go p.tables e below s Q C S (T.setTop (mkF m pc Ls (.int j :: .ref a :: rest))) := by
  obtain ⟨cl, A, r1, r2, r3, -⟩ := F
  exact Go.of (fun t q => X.iaload hx (j := j) (v := .int (f k)) (by rw [eT]; exact A.1) (State.isArrayOf_alike hZ.alike A.2.1) A.2.2 (in_idx hj hk r1) (by rw [nat_idx hj, r3 _ hk]) (g := mkF m pc Ls (.int j :: .ref a :: rest)) rfl rfl hd t q) kk
theorem Go.laload (X : Stand p l e R s m args below meth c T locs cells slots) (hx : p.tables.exec = Jvm.exec) (hZ : Z.Warmed39 s.vm) (eT : T.heap = h) {f : Nat → Int64} (F : ArF Z h a .long n (fun i => .long (f i))) {k : Nat} (hj : j.toInt = (k : Int)) (hk : k < n) (hd : decode c.code pc = .ok (.laload, 1))
    (kk : Go p.tables e below s Q C S (T.setTop (mkF m (pc + 1) Ls (.long (f k) :: rest)))) : Go p.tables e below s Q C S (T.setTop (mkF m pc Ls (.int j :: .ref a :: rest))) := by
  obtain ⟨cl, A, r1, r2, r3, -⟩ := F
  exact Go.of (fun t q => X.laload hx (j := j) (v := .long (f k)) (by rw [eT]; exact A.1) (State.isArrayOf_alike hZ.alike A.2.1) A.2.2 (in_idx hj hk r1) (by rw [nat_idx hj, r3 _ hk]) (g := mkF m pc Ls (.int j :: .ref a :: rest)) rfl rfl hd t q) kk
theorem Go.baload (X : Stand p l e R s m args below meth c T locs cells slots) (hx : p.tables.exec = Jvm.exec) (hZ : Z.Warmed39 s.vm) (eT : T.heap = h) {f : Nat → Int32} (F : ArF Z h a .byte n (fun i => .int (f i))) {k : Nat} (hj : j.toInt = (k : Int)) (hk : k < n) (hd : decode c.code pc = .ok (.baload, 1))
    (kk : Go p.tables e below s Q C S (T.setTop (mkF m (pc + 1) Ls (.int (f k) :: rest)))) : Go p.tables e below s Q C S (T.setTop (mkF m pc Ls (.int j :: .ref a :: rest))) := by
  obtain ⟨cl, A, r1, r2, r3, -⟩ := F
  exact Go.of (fun t q => X.baloadBytes hx (j := j) (v := .int (f k)) (by rw [eT]; exact A.1) (State.isArrayOf_alike hZ.alike A.2.1) A.2.2 (in_idx hj hk r1) (by rw [nat_idx hj, r3 _ hk]) (g := mkF m pc Ls (.int j :: .ref a :: rest)) rfl rfl hd t q) kk
theorem Go.daload (X : Stand p l e R s m args below meth c T locs cells slots) (hx : p.tables.exec = Jvm.exec) (hZ : Z.Warmed39 s.vm) (eT : T.heap = h) {f : Nat → UInt64} (F : ArF Z h a .double n (fun i => .double (f i))) {k : Nat} (hj : j.toInt = (k : Int)) (hk : k < n) (hd : decode c.code pc = .ok (.daload, 1))
    (kk : Go p.tables e below s Q C S (T.setTop (mkF m (pc + 1) Ls (.double (f k) :: rest)))) : Go p.tables e below s Q C S (T.setTop (mkF m pc Ls (.int j :: .ref a :: rest))) := by
  obtain ⟨cl, A, r1, r2, r3, -⟩ := F
  exact Go.of (fun t q => X.daload hx (j := j) (v := .double (f k)) (by rw [eT]; exact A.1) (State.isArrayOf_alike hZ.alike A.2.1) A.2.2 (in_idx hj hk r1) (by rw [nat_idx hj, r3 _ hk]) (g := mkF m pc Ls (.int j :: .ref a :: rest)) rfl rfl hd t q) kk
theorem Go.aaload (X : Stand p l e R s m args below meth c T locs cells slots) (hx : p.tables.exec = Jvm.exec) (hZ : Z.Warmed39 s.vm) (eT : T.heap = h) {ty : FieldType} {f : Nat → Value} (F : ArF Z h a ty n f) (hty : ty.isReference = true) {k : Nat} (hj : j.toInt = (k : Int)) (hk : k < n) {v : Value} (hv : f k = v) (hd : decode c.code pc = .ok (.aaload, 1))
    (kk : Go p.tables e below s Q C S (T.setTop (mkF m (pc + 1) Ls (v :: rest)))) : Go p.tables e below s Q C S (T.setTop (mkF m pc Ls (.int j :: .ref a :: rest))) := by
  obtain ⟨cl, A, r1, r2, r3, -⟩ := F
  exact Go.of (fun t q => X.aaload hx (j := j) (v := v) (by rw [eT]; exact A.1) (State.isArrayOf_alike hZ.alike A.2.1) hty A.2.2 (in_idx hj hk r1) (by rw [nat_idx hj, r3 _ hk, hv]) (g := mkF m pc Ls (.int j :: .ref a :: rest)) rfl rfl hd t q) kk
theorem Go.iastore (X : Stand p l e R s m args below meth c T locs cells slots) (hx : p.tables.exec = Jvm.exec) (hZ : Z.Warmed39 s.vm) (eT : T.heap = h) {f : Nat → Int32} (F : ArF Z h a .int n (fun i => .int (f i))) {x : Int32} {k : Nat} (hj : j.toInt = (k : Int)) (hk : k < n) (hd : decode c.code pc = .ok (.iastore, 1))
    (kk : ∀ T' h', Stand p l e R s m args below meth c T' (locs ++ [⟨a, k⟩]) cells slots → T'.heap = h' → Wr h h' a k (.int x) → ArF Z h' a .int n (fun i => .int (upI f k x i)) → Go p.tables e below s Q C S (T'.setTop (mkF m (pc + 1) Ls rest))) : Go p.tables e below s Q C S (T.setTop (mkF m pc Ls (.int x :: .int j :: .ref a :: rest))) := by
  obtain ⟨cl, A, r1, r2, r3, r4⟩ := F
  obtain ⟨T', h', X', e', W, st⟩ := stI X hx hZ eT A (j := j) (in_idx hj hk r1) (g := mkF m pc Ls (.int x :: .int j :: .ref a :: rest)) rfl rfl hd
  rw [nat_idx hj] at X' W
  exact Go.of st (kk T' h' X' e' W ((ArF.set ⟨cl, A, r1, r2, r3, r4⟩ rfl W).congr fun i _ => by simp only [upV, upI]; split <;> rfl))
theorem Go.lastore (X : Stand p l e R s m args below meth c T locs cells slots) (hx : p.tables.exec = Jvm.exec) (hZ : Z.Warmed39 s.vm) (eT : T.heap = h) {f : Nat → Int64} (F : ArF Z h a .long n (fun i => .long (f i))) {x : Int64} {k : Nat} (hj : j.toInt = (k : Int)) (hk : k < n) (hd : decode c.code pc = .ok (.lastore, 1))
    (kk : ∀ T' h', Stand p l e R s m args below meth c T' (locs ++ [⟨a, k⟩]) cells slots → T'.heap = h' → Wr h h' a k (.long x) → ArF Z h' a .long n (fun i => .long (upJ f k x i)) → Go p.tables e below s Q C S (T'.setTop (mkF m (pc + 1) Ls rest))) : Go p.tables e below s Q C S (T.setTop (mkF m pc Ls (.long x :: .int j :: .ref a :: rest))) := by
  obtain ⟨cl, A, r1, r2, r3, r4⟩ := F
  obtain ⟨T', h', X', e', W, st⟩ := stJ X hx hZ eT A (j := j) (in_idx hj hk r1) (g := mkF m pc Ls (.long x :: .int j :: .ref a :: rest)) rfl rfl hd
  rw [nat_idx hj] at X' W
  exact Go.of st (kk T' h' X' e' W ((ArF.set ⟨cl, A, r1, r2, r3, r4⟩ rfl W).congr fun i _ => by simp only [upV, upJ]; split <;> rfl))
theorem Go.bastore (X : Stand p l e R s m args below meth c T locs cells slots) (hx : p.tables.exec = Jvm.exec) (hZ : Z.Warmed39 s.vm) (eT : T.heap = h) {f : Nat → Int32} (F : ArF Z h a .byte n (fun i => .int (f i))) {x : Int32} {k : Nat} (hj : j.toInt = (k : Int)) (hk : k < n) (hd : decode c.code pc = .ok (.bastore, 1))
    (kk : ∀ T' h', Stand p l e R s m args below meth c T' (locs ++ [⟨a, k⟩]) cells slots → T'.heap = h' → Wr h h' a k (.int (nar .byte x)) → ArF Z h' a .byte n (fun i => .int (upI f k (nar .byte x) i)) → Go p.tables e below s Q C S (T'.setTop (mkF m (pc + 1) Ls rest))) : Go p.tables e below s Q C S (T.setTop (mkF m pc Ls (.int x :: .int j :: .ref a :: rest))) := by
  obtain ⟨cl, A, r1, r2, r3, r4⟩ := F
  obtain ⟨T', h', X', e', W, st⟩ := stB X hx hZ eT A (j := j) (in_idx hj hk r1) (g := mkF m pc Ls (.int x :: .int j :: .ref a :: rest)) rfl rfl hd
  rw [nat_idx hj] at X' W
  exact Go.of st (kk T' h' X' e' W ((ArF.set ⟨cl, A, r1, r2, r3, r4⟩ (fits_nar_byte _) W).congr fun i _ => by simp only [upV, upI]; split <;> rfl))
theorem Go.dastore (X : Stand p l e R s m args below meth c T locs cells slots) (hx : p.tables.exec = Jvm.exec) (hZ : Z.Warmed39 s.vm) (eT : T.heap = h) {f : Nat → UInt64} (F : ArF Z h a .double n (fun i => .double (f i))) {x : UInt64} {k : Nat} (hj : j.toInt = (k : Int)) (hk : k < n) (hd : decode c.code pc = .ok (.dastore, 1))
    (kk : ∀ T' h', Stand p l e R s m args below meth c T' (locs ++ [⟨a, k⟩]) cells slots → T'.heap = h' → Wr h h' a k (.double x) → ArF Z h' a .double n (fun i => .double (upD f k x i)) → Go p.tables e below s Q C S (T'.setTop (mkF m (pc + 1) Ls rest))) : Go p.tables e below s Q C S (T.setTop (mkF m pc Ls (.double x :: .int j :: .ref a :: rest))) := by
  obtain ⟨cl, A, r1, r2, r3, r4⟩ := F
  obtain ⟨T', h', X', e', W, st⟩ := stD X hx hZ eT A (j := j) (in_idx hj hk r1) (g := mkF m pc Ls (.double x :: .int j :: .ref a :: rest)) rfl rfl hd
  rw [nat_idx hj] at X' W
  exact Go.of st (kk T' h' X' e' W ((ArF.set ⟨cl, A, r1, r2, r3, r4⟩ rfl W).congr fun i _ => by simp only [upV, upD]; split <;> rfl))
theorem Go.newarr (X : Stand p l e R s m args below meth c T locs cells slots) (hx : p.tables.exec = Jvm.exec) (hZ : Z.Warmed39 s.vm) {aty : ArrayType} {ty : FieldType} (hty : newarray.typeOf aty = ty) (w : (Cond.arrayClass ty).before a0 Z = true) (eT : T.heap = h) {z : Int32} (hn : ¬ z < 0) (hz : z.toNatClampNeg = n) {cap : Nat} (hcap : n ≤ cap) (hb : cap * 8 ≤ 536870912) (hc : cells + 1 ≤ R.cells) (hl : slots + cap ≤ R.slots)
    (hd : decode c.code pc = .ok (.newarray aty, 2))
    (kk : ∀ T' h' b, Stand p l e R s m args below meth c T' locs (cells + 1) (slots + cap) → T'.heap = h' → Ext h h' → b = h.size → ArF Z h' b ty n (fun _ => defaultValue ty) → Go p.tables e below s Q C S (T'.setTop (mkF m (pc + 2) Ls (.ref b :: rest)))) : Go p.tables e below s Q C S (T.setTop (mkF m pc Ls (.int z :: rest))) := by
  subst hty
  obtain ⟨T', h', cA, X', e', E, A, st⟩ := newP X hx hZ w eT (g := mkF m pc Ls (.int z :: rest)) rfl hd rfl hn (cap := cap) (by omega) hb hc hl
  exact Go.of st (kk T' h' h.size X' e' E rfl (ArF.new A hn hz))
theorem Go.arraycopy (X : Stand p l e R s m args below meth c T locs cells slots) (hx : p.tables.exec = Jvm.exec) (hZ : Z.Warmed39 s.vm) {own : String} {index : Nat} (hown : s.vm.findClass own = some m.cls)
    (w1 : (Cond.methodLink own index Jvm.Stand.acN).before a0 Z = true) (w2 : (Cond.native Jvm.Stand.acN).before a0 Z = true) (w3 : (Cond.static Jvm.Stand.acN).before a0 Z = true) (w4 : (Cond.initialized "java/lang/System").before a0 Z = true) (eT : T.heap = h)
    {ty : FieldType} {b : Addr} {n' : Nat} {f f' : Nat → Value} (A : ArF Z h a ty n f) (B : ArF Z h b ty n' f') (hty : refKind ty = false) {sp dp nn : Int32} {ks kd kn : Nat} (h1 : sp.toInt = (ks : Int)) (h2 : dp.toInt = (kd : Int)) (h3 : nn.toInt = (kn : Int)) (h4 : ks + kn ≤ n) (h5 : kd + kn ≤ n') {n0 : Nat} (N : Fr n0 locs) (ge : n0 ≤ b)
    (hsz : Ls.size = c.maxLocals) (hd : decode c.code pc = .ok (.invokestatic index, 3)) (hf : 1 ≤ R.frames) {W : Nat} (hW : (rest.map fun v => v.category).sum = W) (hlo : W + (nativeFrameWords "java/lang/System" "arraycopy" 5 + 11) ≤ R.locals)
    (kk : ∀ T' h' L, Stand p l e R s m args below meth c T' L cells slots → T'.heap = h' → Fr n0 L → Keep h h' [b] → ArF Z h' b ty n' (cpF f f' ks kd kn) → Go p.tables e below s Q C S (T'.setTop (mkF m (pc + 3) Ls rest))) : Go p.tables e below s Q C S (T.setTop (mkF m pc Ls (.int nn :: .int dp :: .ref b :: .int sp :: .ref a :: rest))) := by
  obtain ⟨k1, A'⟩ := A.arv (.int 0)
  obtain ⟨k2, B'⟩ := B.arv (.int 0)
  have e1 := nat_idx h1
  have e2 := nat_idx h2
  have e3 := nat_idx h3
  have z0 : (0 : Int32).toInt = 0 := rfl
  have zn : (n.toInt32).toNatClampNeg = n := by have := len_toInt A.len; rw [Int32.toNatClampNeg]; omega
  have zn' : (n'.toInt32).toNatClampNeg = n' := by have := len_toInt B.len; rw [Int32.toNatClampNeg]; omega
  obtain ⟨T', h', L, X', e', N', K, V, st⟩ := cpA X hx hZ hown w1 w2 w3 w4 eT A' B' (Or.inl ⟨rfl, hty⟩) (sp := sp) (dp := dp) (nn := nn) (by rw [Int32.lt_iff_toInt_lt]; omega) (by rw [Int32.lt_iff_toInt_lt]; omega) (by rw [Int32.lt_iff_toInt_lt]; omega) (by rw [e1, e3, zn]; exact h4) (by rw [e2, e3, zn']; exact h5) rfl (by rw [e2, e3]; simpa using h5) N ge (g := mkF m pc Ls (.int nn :: .int dp :: .ref b :: .int sp :: .ref a :: rest)) rfl hsz rfl hd hf (W := W) (by show 2 * 0 + _ ≤ _; rw [hW]; omega) hlo
  refine Go.of st (kk T' h' L X' e' N' K ?_)
  have V2 := arF_of_arv V
  rw [zn'] at V2
  refine V2.congr fun i hi => ?_
  rw [e1, e2, e3]
  simp only [cpF, List.getD]
  by_cases c1 : i < kd
  · rw [if_neg (by omega), List.append_assoc, List.getElem?_append_left (by simp; omega)]
    simp [c1, hi]
  · by_cases c2 : i < kd + kn
    · have c3 : ks + (i - kd) < n := by omega
      have c4 : i - kd < kn := by omega
      rw [if_pos ⟨by omega, c2⟩, List.append_assoc, List.getElem?_append_right (by simp; omega)]
      have c5 : (List.take kd (List.map f' (List.range n'))).length = kd := by simp; omega
      rw [c5, List.getElem?_append_left (by simpa using c4)]
      simp [c4, c3]
    · have c5 : (List.take kd (List.map f' (List.range n')) ++ List.map (fun i => ((List.map f (List.range n))[ks + i]?).getD (Value.int 0)) (List.range kn)).length = kd + kn := by simp; omega
      rw [if_neg (by omega), List.getElem?_append_right (by rw [c5]; omega), c5]
      have c6 : kd + kn + (i - (kd + kn)) = i := by omega
      simp [c6, hi]
end ArrSteps
section Steps1
variable {p : Program} {l : Launch} {e : Env} {R : Room} {s : State} {m : MethodId} {args : Array Value} {below : List Frame} {meth : Method} {c : Code} {T : State} {locs : List Loc} {cells slots : Nat} {Q : Option Value → Heap → List Loc → Prop} {C S : Nat} {bs : ByteArray} {pc pc' : Nat} {Ls : Array Slot} {st : List Value} {Z : State} {a0 : Array Value} {h : Heap} {own : String}
theorem g_iloadN (X : Stand p l e R s m args below meth c T locs cells slots) (hx : p.tables.exec = Jvm.exec) (hby : c.code = bs) {k : Fin 4} {v : Int32} (hd : decode bs pc = .ok (.iload_n k, 1)) (hp : pc + 1 = pc') (hl : Ls[k.val]? = some (.val (.int v))) (kk : Go p.tables e below s Q C S (T.setTop (mkF m pc' Ls (.int v :: st)))) : Go p.tables e below s Q C S (T.setTop (mkF m pc Ls (st))) := by
  subst hp
  exact Go.of (fun _ q => XS.iloadN X.here hx rfl (hb hby hd) hl q) kk
theorem g_iload (X : Stand p l e R s m args below meth c T locs cells slots) (hx : p.tables.exec = Jvm.exec) (hby : c.code = bs) {k : Nat} {v : Int32} (hd : decode bs pc = .ok (.iload k, 2)) (hp : pc + 2 = pc') (hl : Ls[k]? = some (.val (.int v))) (kk : Go p.tables e below s Q C S (T.setTop (mkF m pc' Ls (.int v :: st)))) : Go p.tables e below s Q C S (T.setTop (mkF m pc Ls (st))) := by
  subst hp
  exact Go.of (fun _ q => XS.iload X.here hx rfl (hb hby hd) hl q) kk
theorem g_istoreN (X : Stand p l e R s m args below meth c T locs cells slots) (hx : p.tables.exec = Jvm.exec) (hby : c.code = bs) {k : Fin 4} {v : Int32} {L' : Array Slot} (hd : decode bs pc = .ok (.istore_n k, 1)) (hp : pc + 1 = pc') (hl : storeLocals Ls k.val (.int v) = some L') (kk : Go p.tables e below s Q C S (T.setTop (mkF m pc' L' (st)))) : Go p.tables e below s Q C S (T.setTop (mkF m pc Ls (.int v :: st))) := by
  subst hp
  exact Go.of (fun _ q => XS.istoreN X.here hx rfl (hb hby hd) rfl hl q) kk
theorem g_istore (X : Stand p l e R s m args below meth c T locs cells slots) (hx : p.tables.exec = Jvm.exec) (hby : c.code = bs) {k : Nat} {v : Int32} {L' : Array Slot} (hd : decode bs pc = .ok (.istore k, 2)) (hp : pc + 2 = pc') (hl : storeLocals Ls k (.int v) = some L') (kk : Go p.tables e below s Q C S (T.setTop (mkF m pc' L' (st)))) : Go p.tables e below s Q C S (T.setTop (mkF m pc Ls (.int v :: st))) := by
  subst hp
  exact Go.of (fun _ q => XS.istore X.here hx rfl (hb hby hd) rfl hl q) kk
theorem g_iadd (X : Stand p l e R s m args below meth c T locs cells slots) (hx : p.tables.exec = Jvm.exec) (hby : c.code = bs) {x y z : Int32} (hd : decode bs pc = .ok (.iadd, 1)) (hp : pc + 1 = pc') (hz : x + y = z) (kk : Go p.tables e below s Q C S (T.setTop (mkF m pc' Ls (.int z :: st)))) : Go p.tables e below s Q C S (T.setTop (mkF m pc Ls (.int y :: .int x :: st))) := by
  subst hp; subst hz
  exact Go.of (fun _ q => XS.iadd X.here hx rfl (hb hby hd) rfl q) kk
theorem g_isub (X : Stand p l e R s m args below meth c T locs cells slots) (hx : p.tables.exec = Jvm.exec) (hby : c.code = bs) {x y z : Int32} (hd : decode bs pc = .ok (.isub, 1)) (hp : pc + 1 = pc') (hz : x - y = z) (kk : Go p.tables e below s Q C S (T.setTop (mkF m pc' Ls (.int z :: st)))) : Go p.tables e below s Q C S (T.setTop (mkF m pc Ls (.int y :: .int x :: st))) := by
  subst hp; subst hz
  exact Go.of (fun _ q => XS.isub X.here hx rfl (hb hby hd) rfl q) kk
theorem g_imul (X : Stand p l e R s m args below meth c T locs cells slots) (hx : p.tables.exec = Jvm.exec) (hby : c.code = bs) {x y z : Int32} (hd : decode bs pc = .ok (.imul, 1)) (hp : pc + 1 = pc') (hz : x * y = z) (kk : Go p.tables e below s Q C S (T.setTop (mkF m pc' Ls (.int z :: st)))) : Go p.tables e below s Q C S (T.setTop (mkF m pc Ls (.int y :: .int x :: st))) := by
  subst hp; subst hz
  exact Go.of (fun _ q => XS.imul X.here hx rfl (hb hby hd) rfl q) kk
theorem g_iand (X : Stand p l e R s m args below meth c T locs cells slots) (hx : p.tables.exec = Jvm.exec) (hby : c.code = bs) {x y z : Int32} (hd : decode bs pc = .ok (.iand, 1)) (hp : pc + 1 = pc') (hz : x &&& y = z) (kk : Go p.tables e below s Q C S (T.setTop (mkF m pc' Ls (.int z :: st)))) : Go p.tables e below s Q C S (T.setTop (mkF m pc Ls (.int y :: .int x :: st))) := by
  subst hp; subst hz
  exact Go.of (fun _ q => XS.iand X.here hx rfl (hb hby hd) rfl q) kk
theorem g_ior (X : Stand p l e R s m args below meth c T locs cells slots) (hx : p.tables.exec = Jvm.exec) (hby : c.code = bs) {x y z : Int32} (hd : decode bs pc = .ok (.ior, 1)) (hp : pc + 1 = pc') (hz : x ||| y = z) (kk : Go p.tables e below s Q C S (T.setTop (mkF m pc' Ls (.int z :: st)))) : Go p.tables e below s Q C S (T.setTop (mkF m pc Ls (.int y :: .int x :: st))) := by
  subst hp; subst hz
  exact Go.of (fun _ q => XS.ior X.here hx rfl (hb hby hd) rfl q) kk
theorem g_ixor (X : Stand p l e R s m args below meth c T locs cells slots) (hx : p.tables.exec = Jvm.exec) (hby : c.code = bs) {x y z : Int32} (hd : decode bs pc = .ok (.ixor, 1)) (hp : pc + 1 = pc') (hz : x ^^^ y = z) (kk : Go p.tables e below s Q C S (T.setTop (mkF m pc' Ls (.int z :: st)))) : Go p.tables e below s Q C S (T.setTop (mkF m pc Ls (.int y :: .int x :: st))) := by
  subst hp; subst hz
  exact Go.of (fun _ q => XS.ixor X.here hx rfl (hb hby hd) rfl q) kk
theorem g_ineg (X : Stand p l e R s m args below meth c T locs cells slots) (hx : p.tables.exec = Jvm.exec) (hby : c.code = bs) {x z : Int32} (hd : decode bs pc = .ok (.ineg, 1)) (hp : pc + 1 = pc') (hz : -x = z) (kk : Go p.tables e below s Q C S (T.setTop (mkF m pc' Ls (.int z :: st)))) : Go p.tables e below s Q C S (T.setTop (mkF m pc Ls (.int x :: st))) := by
  subst hp; subst hz
  exact Go.of (fun _ q => XS.ineg X.here hx rfl (hb hby hd) rfl q) kk
theorem g_idiv (X : Stand p l e R s m args below meth c T locs cells slots) (hx : p.tables.exec = Jvm.exec) (hby : c.code = bs) {x y z : Int32} (hd : decode bs pc = .ok (.idiv, 1)) (hp : pc + 1 = pc') (hy : y ≠ 0) (hz : x / y = z) (kk : Go p.tables e below s Q C S (T.setTop (mkF m pc' Ls (.int z :: st)))) : Go p.tables e below s Q C S (T.setTop (mkF m pc Ls (.int y :: .int x :: st))) := by
  subst hp; subst hz
  exact Go.of (fun _ q => XS.idiv X.here hx rfl (hb hby hd) rfl hy q) kk
theorem g_lloadN (X : Stand p l e R s m args below meth c T locs cells slots) (hx : p.tables.exec = Jvm.exec) (hby : c.code = bs) {k : Fin 4} {v : Int64} (hd : decode bs pc = .ok (.lload_n k, 1)) (hp : pc + 1 = pc') (hl : Ls[k.val]? = some (.val (.long v))) (kk : Go p.tables e below s Q C S (T.setTop (mkF m pc' Ls (.long v :: st)))) : Go p.tables e below s Q C S (T.setTop (mkF m pc Ls (st))) := by
  subst hp
  exact Go.of (fun _ q => XS.lloadN X.here hx rfl (hb hby hd) hl q) kk
theorem g_lload (X : Stand p l e R s m args below meth c T locs cells slots) (hx : p.tables.exec = Jvm.exec) (hby : c.code = bs) {k : Nat} {v : Int64} (hd : decode bs pc = .ok (.lload k, 2)) (hp : pc + 2 = pc') (hl : Ls[k]? = some (.val (.long v))) (kk : Go p.tables e below s Q C S (T.setTop (mkF m pc' Ls (.long v :: st)))) : Go p.tables e below s Q C S (T.setTop (mkF m pc Ls (st))) := by
  subst hp
  exact Go.of (fun _ q => XS.lload X.here hx rfl (hb hby hd) hl q) kk
theorem g_lstoreN (X : Stand p l e R s m args below meth c T locs cells slots) (hx : p.tables.exec = Jvm.exec) (hby : c.code = bs) {k : Fin 4} {v : Int64} {L' : Array Slot} (hd : decode bs pc = .ok (.lstore_n k, 1)) (hp : pc + 1 = pc') (hl : storeLocals Ls k.val (.long v) = some L') (kk : Go p.tables e below s Q C S (T.setTop (mkF m pc' L' (st)))) : Go p.tables e below s Q C S (T.setTop (mkF m pc Ls (.long v :: st))) := by
  subst hp
  exact Go.of (fun _ q => XS.lstoreN X.here hx rfl (hb hby hd) rfl hl q) kk
theorem g_lstore (X : Stand p l e R s m args below meth c T locs cells slots) (hx : p.tables.exec = Jvm.exec) (hby : c.code = bs) {k : Nat} {v : Int64} {L' : Array Slot} (hd : decode bs pc = .ok (.lstore k, 2)) (hp : pc + 2 = pc') (hl : storeLocals Ls k (.long v) = some L') (kk : Go p.tables e below s Q C S (T.setTop (mkF m pc' L' (st)))) : Go p.tables e below s Q C S (T.setTop (mkF m pc Ls (.long v :: st))) := by
  subst hp
  exact Go.of (fun _ q => XS.lstore X.here hx rfl (hb hby hd) rfl hl q) kk
theorem g_ladd (X : Stand p l e R s m args below meth c T locs cells slots) (hx : p.tables.exec = Jvm.exec) (hby : c.code = bs) {x y z : Int64} (hd : decode bs pc = .ok (.ladd, 1)) (hp : pc + 1 = pc') (hz : x + y = z) (kk : Go p.tables e below s Q C S (T.setTop (mkF m pc' Ls (.long z :: st)))) : Go p.tables e below s Q C S (T.setTop (mkF m pc Ls (.long y :: .long x :: st))) := by
  subst hp; subst hz
  exact Go.of (fun _ q => XS.ladd X.here hx rfl (hb hby hd) rfl q) kk
theorem g_lsub (X : Stand p l e R s m args below meth c T locs cells slots) (hx : p.tables.exec = Jvm.exec) (hby : c.code = bs) {x y z : Int64} (hd : decode bs pc = .ok (.lsub, 1)) (hp : pc + 1 = pc') (hz : x - y = z) (kk : Go p.tables e below s Q C S (T.setTop (mkF m pc' Ls (.long z :: st)))) : Go p.tables e below s Q C S (T.setTop (mkF m pc Ls (.long y :: .long x :: st))) := by
  subst hp; subst hz
  exact Go.of (fun _ q => XS.lsub X.here hx rfl (hb hby hd) rfl q) kk
theorem g_lmul (X : Stand p l e R s m args below meth c T locs cells slots) (hx : p.tables.exec = Jvm.exec) (hby : c.code = bs) {x y z : Int64} (hd : decode bs pc = .ok (.lmul, 1)) (hp : pc + 1 = pc') (hz : x * y = z) (kk : Go p.tables e below s Q C S (T.setTop (mkF m pc' Ls (.long z :: st)))) : Go p.tables e below s Q C S (T.setTop (mkF m pc Ls (.long y :: .long x :: st))) := by
  subst hp; subst hz
  exact Go.of (fun _ q => XS.lmul X.here hx rfl (hb hby hd) rfl q) kk
theorem g_land (X : Stand p l e R s m args below meth c T locs cells slots) (hx : p.tables.exec = Jvm.exec) (hby : c.code = bs) {x y z : Int64} (hd : decode bs pc = .ok (.land, 1)) (hp : pc + 1 = pc') (hz : x &&& y = z) (kk : Go p.tables e below s Q C S (T.setTop (mkF m pc' Ls (.long z :: st)))) : Go p.tables e below s Q C S (T.setTop (mkF m pc Ls (.long y :: .long x :: st))) := by
  subst hp; subst hz
  exact Go.of (fun _ q => XS.land X.here hx rfl (hb hby hd) rfl q) kk
theorem g_lor (X : Stand p l e R s m args below meth c T locs cells slots) (hx : p.tables.exec = Jvm.exec) (hby : c.code = bs) {x y z : Int64} (hd : decode bs pc = .ok (.lor, 1)) (hp : pc + 1 = pc') (hz : x ||| y = z) (kk : Go p.tables e below s Q C S (T.setTop (mkF m pc' Ls (.long z :: st)))) : Go p.tables e below s Q C S (T.setTop (mkF m pc Ls (.long y :: .long x :: st))) := by
  subst hp; subst hz
  exact Go.of (fun _ q => XS.lor X.here hx rfl (hb hby hd) rfl q) kk
theorem g_lxor (X : Stand p l e R s m args below meth c T locs cells slots) (hx : p.tables.exec = Jvm.exec) (hby : c.code = bs) {x y z : Int64} (hd : decode bs pc = .ok (.lxor, 1)) (hp : pc + 1 = pc') (hz : x ^^^ y = z) (kk : Go p.tables e below s Q C S (T.setTop (mkF m pc' Ls (.long z :: st)))) : Go p.tables e below s Q C S (T.setTop (mkF m pc Ls (.long y :: .long x :: st))) := by
  subst hp; subst hz
  exact Go.of (fun _ q => XS.lxor X.here hx rfl (hb hby hd) rfl q) kk
theorem g_lneg (X : Stand p l e R s m args below meth c T locs cells slots) (hx : p.tables.exec = Jvm.exec) (hby : c.code = bs) {x z : Int64} (hd : decode bs pc = .ok (.lneg, 1)) (hp : pc + 1 = pc') (hz : -x = z) (kk : Go p.tables e below s Q C S (T.setTop (mkF m pc' Ls (.long z :: st)))) : Go p.tables e below s Q C S (T.setTop (mkF m pc Ls (.long x :: st))) := by
  subst hp; subst hz
  exact Go.of (fun _ q => XS.lneg X.here hx rfl (hb hby hd) rfl q) kk
theorem g_ldiv (X : Stand p l e R s m args below meth c T locs cells slots) (hx : p.tables.exec = Jvm.exec) (hby : c.code = bs) {x y z : Int64} (hd : decode bs pc = .ok (.ldiv, 1)) (hp : pc + 1 = pc') (hy : y ≠ 0) (hz : x / y = z) (kk : Go p.tables e below s Q C S (T.setTop (mkF m pc' Ls (.long z :: st)))) : Go p.tables e below s Q C S (T.setTop (mkF m pc Ls (.long y :: .long x :: st))) := by
  subst hp; subst hz
  exact Go.of (fun _ q => XS.ldiv X.here hx rfl (hb hby hd) rfl hy q) kk
theorem g_dloadN (X : Stand p l e R s m args below meth c T locs cells slots) (hx : p.tables.exec = Jvm.exec) (hby : c.code = bs) {k : Fin 4} {v : UInt64} (hd : decode bs pc = .ok (.dload_n k, 1)) (hp : pc + 1 = pc') (hl : Ls[k.val]? = some (.val (.double v))) (kk : Go p.tables e below s Q C S (T.setTop (mkF m pc' Ls (.double v :: st)))) : Go p.tables e below s Q C S (T.setTop (mkF m pc Ls (st))) := by
  subst hp
  exact Go.of (fun _ q => XS.dloadN X.here hx rfl (hb hby hd) hl q) kk
theorem g_dload (X : Stand p l e R s m args below meth c T locs cells slots) (hx : p.tables.exec = Jvm.exec) (hby : c.code = bs) {k : Nat} {v : UInt64} (hd : decode bs pc = .ok (.dload k, 2)) (hp : pc + 2 = pc') (hl : Ls[k]? = some (.val (.double v))) (kk : Go p.tables e below s Q C S (T.setTop (mkF m pc' Ls (.double v :: st)))) : Go p.tables e below s Q C S (T.setTop (mkF m pc Ls (st))) := by
  subst hp
  exact Go.of (fun _ q => XS.dload X.here hx rfl (hb hby hd) hl q) kk
theorem g_dstoreN (X : Stand p l e R s m args below meth c T locs cells slots) (hx : p.tables.exec = Jvm.exec) (hby : c.code = bs) {k : Fin 4} {v : UInt64} {L' : Array Slot} (hd : decode bs pc = .ok (.dstore_n k, 1)) (hp : pc + 1 = pc') (hl : storeLocals Ls k.val (.double v) = some L') (kk : Go p.tables e below s Q C S (T.setTop (mkF m pc' L' (st)))) : Go p.tables e below s Q C S (T.setTop (mkF m pc Ls (.double v :: st))) := by
  subst hp
  exact Go.of (fun _ q => XS.dstoreN X.here hx rfl (hb hby hd) rfl hl q) kk
theorem g_dstore (X : Stand p l e R s m args below meth c T locs cells slots) (hx : p.tables.exec = Jvm.exec) (hby : c.code = bs) {k : Nat} {v : UInt64} {L' : Array Slot} (hd : decode bs pc = .ok (.dstore k, 2)) (hp : pc + 2 = pc') (hl : storeLocals Ls k (.double v) = some L') (kk : Go p.tables e below s Q C S (T.setTop (mkF m pc' L' (st)))) : Go p.tables e below s Q C S (T.setTop (mkF m pc Ls (.double v :: st))) := by
  subst hp
  exact Go.of (fun _ q => XS.dstore X.here hx rfl (hb hby hd) rfl hl q) kk
theorem g_irem (X : Stand p l e R s m args below meth c T locs cells slots) (hx : p.tables.exec = Jvm.exec) (hby : c.code = bs) {x y z : Int32} (hd : decode bs pc = .ok (.irem, 1)) (hp : pc + 1 = pc') (hy : y ≠ 0) (hz : x % y = z) (kk : Go p.tables e below s Q C S (T.setTop (mkF m pc' Ls (.int z :: st)))) : Go p.tables e below s Q C S (T.setTop (mkF m pc Ls (.int y :: .int x :: st))) := by
  subst hp; subst hz
  exact Go.of (fun _ q => XS.irem X.here hx rfl (hb hby hd) rfl hy (by rw [irem_mod]; exact q)) kk
theorem g_ishl (X : Stand p l e R s m args below meth c T locs cells slots) (hx : p.tables.exec = Jvm.exec) (hby : c.code = bs) {x z : Int32} {y : Int32} (hd : decode bs pc = .ok (.ishl, 1)) (hp : pc + 1 = pc') (hz : x <<< (y &&& 31) = z) (kk : Go p.tables e below s Q C S (T.setTop (mkF m pc' Ls (.int z :: st)))) : Go p.tables e below s Q C S (T.setTop (mkF m pc Ls (.int y :: .int x :: st))) := by
  subst hp; subst hz
  exact Go.of (fun _ q => XS.ishl X.here hx rfl (hb hby hd) rfl q) kk
theorem g_ishr (X : Stand p l e R s m args below meth c T locs cells slots) (hx : p.tables.exec = Jvm.exec) (hby : c.code = bs) {x z : Int32} {y : Int32} (hd : decode bs pc = .ok (.ishr, 1)) (hp : pc + 1 = pc') (hz : x >>> (y &&& 31) = z) (kk : Go p.tables e below s Q C S (T.setTop (mkF m pc' Ls (.int z :: st)))) : Go p.tables e below s Q C S (T.setTop (mkF m pc Ls (.int y :: .int x :: st))) := by
  subst hp; subst hz
  exact Go.of (fun _ q => XS.ishr X.here hx rfl (hb hby hd) rfl q) kk
theorem g_iushr (X : Stand p l e R s m args below meth c T locs cells slots) (hx : p.tables.exec = Jvm.exec) (hby : c.code = bs) {x z : Int32} {y : Int32} (hd : decode bs pc = .ok (.iushr, 1)) (hp : pc + 1 = pc') (hz : (x.toUInt32 >>> (y &&& 31).toUInt32).toInt32 = z) (kk : Go p.tables e below s Q C S (T.setTop (mkF m pc' Ls (.int z :: st)))) : Go p.tables e below s Q C S (T.setTop (mkF m pc Ls (.int y :: .int x :: st))) := by
  subst hp; subst hz
  exact Go.of (fun _ q => XS.iushr X.here hx rfl (hb hby hd) rfl q) kk
theorem g_lshl (X : Stand p l e R s m args below meth c T locs cells slots) (hx : p.tables.exec = Jvm.exec) (hby : c.code = bs) {x z : Int64} {y : Int32} (hd : decode bs pc = .ok (.lshl, 1)) (hp : pc + 1 = pc') (hz : x <<< (y &&& 0x3f).toInt64 = z) (kk : Go p.tables e below s Q C S (T.setTop (mkF m pc' Ls (.long z :: st)))) : Go p.tables e below s Q C S (T.setTop (mkF m pc Ls (.int y :: .long x :: st))) := by
  subst hp; subst hz
  exact Go.of (fun _ q => XS.lshl X.here hx rfl (hb hby hd) rfl q) kk
theorem g_lshr (X : Stand p l e R s m args below meth c T locs cells slots) (hx : p.tables.exec = Jvm.exec) (hby : c.code = bs) {x z : Int64} {y : Int32} (hd : decode bs pc = .ok (.lshr, 1)) (hp : pc + 1 = pc') (hz : x >>> (y &&& 0x3f).toInt64 = z) (kk : Go p.tables e below s Q C S (T.setTop (mkF m pc' Ls (.long z :: st)))) : Go p.tables e below s Q C S (T.setTop (mkF m pc Ls (.int y :: .long x :: st))) := by
  subst hp; subst hz
  exact Go.of (fun _ q => XS.lshr X.here hx rfl (hb hby hd) rfl q) kk
theorem g_lushr (X : Stand p l e R s m args below meth c T locs cells slots) (hx : p.tables.exec = Jvm.exec) (hby : c.code = bs) {x z : Int64} {y : Int32} (hd : decode bs pc = .ok (.lushr, 1)) (hp : pc + 1 = pc') (hz : (x.toUInt64 >>> (y &&& 0x3f).toInt64.toUInt64).toInt64 = z) (kk : Go p.tables e below s Q C S (T.setTop (mkF m pc' Ls (.long z :: st)))) : Go p.tables e below s Q C S (T.setTop (mkF m pc Ls (.int y :: .long x :: st))) := by
  subst hp; subst hz
  exact Go.of (fun _ q => XS.lushr X.here hx rfl (hb hby hd) rfl q) kk
theorem g_i2l (X : Stand p l e R s m args below meth c T locs cells slots) (hx : p.tables.exec = Jvm.exec) (hby : c.code = bs) {x : Int32} {z : Int64} (hd : decode bs pc = .ok (.i2l, 1)) (hp : pc + 1 = pc') (hz : x.toInt64 = z) (kk : Go p.tables e below s Q C S (T.setTop (mkF m pc' Ls (.long z :: st)))) : Go p.tables e below s Q C S (T.setTop (mkF m pc Ls (.int x :: st))) := by
  subst hp; subst hz
  exact Go.of (fun _ q => XS.i2l X.here hx rfl (hb hby hd) rfl q) kk
theorem g_l2i (X : Stand p l e R s m args below meth c T locs cells slots) (hx : p.tables.exec = Jvm.exec) (hby : c.code = bs) {x : Int64} {z : Int32} (hd : decode bs pc = .ok (.l2i, 1)) (hp : pc + 1 = pc') (hz : x.toInt32 = z) (kk : Go p.tables e below s Q C S (T.setTop (mkF m pc' Ls (.int z :: st)))) : Go p.tables e below s Q C S (T.setTop (mkF m pc Ls (.long x :: st))) := by
  subst hp; subst hz
  exact Go.of (fun _ q => XS.l2i X.here hx rfl (hb hby hd) rfl q) kk
theorem g_i2b (X : Stand p l e R s m args below meth c T locs cells slots) (hx : p.tables.exec = Jvm.exec) (hby : c.code = bs) {x : Int32} {z : Int32} (hd : decode bs pc = .ok (.i2b, 1)) (hp : pc + 1 = pc') (hz : x.toInt8.toInt32 = z) (kk : Go p.tables e below s Q C S (T.setTop (mkF m pc' Ls (.int z :: st)))) : Go p.tables e below s Q C S (T.setTop (mkF m pc Ls (.int x :: st))) := by
  subst hp; subst hz
  exact Go.of (fun _ q => XS.i2b X.here hx rfl (hb hby hd) rfl q) kk
theorem g_i2c (X : Stand p l e R s m args below meth c T locs cells slots) (hx : p.tables.exec = Jvm.exec) (hby : c.code = bs) {x : Int32} {z : Int32} (hd : decode bs pc = .ok (.i2c, 1)) (hp : pc + 1 = pc') (hz : x.toUInt32.toUInt16.toUInt32.toInt32 = z) (kk : Go p.tables e below s Q C S (T.setTop (mkF m pc' Ls (.int z :: st)))) : Go p.tables e below s Q C S (T.setTop (mkF m pc Ls (.int x :: st))) := by
  subst hp; subst hz
  exact Go.of (fun _ q => XS.i2c X.here hx rfl (hb hby hd) rfl q) kk
theorem g_i2s (X : Stand p l e R s m args below meth c T locs cells slots) (hx : p.tables.exec = Jvm.exec) (hby : c.code = bs) {x : Int32} {z : Int32} (hd : decode bs pc = .ok (.i2s, 1)) (hp : pc + 1 = pc') (hz : x.toInt16.toInt32 = z) (kk : Go p.tables e below s Q C S (T.setTop (mkF m pc' Ls (.int z :: st)))) : Go p.tables e below s Q C S (T.setTop (mkF m pc Ls (.int x :: st))) := by
  subst hp; subst hz
  exact Go.of (fun _ q => XS.i2s X.here hx rfl (hb hby hd) rfl q) kk
theorem g_lcmp (X : Stand p l e R s m args below meth c T locs cells slots) (hx : p.tables.exec = Jvm.exec) (hby : c.code = bs) {x y : Int64} (hd : decode bs pc = .ok (.lcmp, 1)) (hp : pc + 1 = pc')  (kk : Go p.tables e below s Q C S (T.setTop (mkF m pc' Ls (.int (lcmpW x y) :: st)))) : Go p.tables e below s Q C S (T.setTop (mkF m pc Ls (.long y :: .long x :: st))) := by
  subst hp
  exact Go.of (fun _ q => XS.lcmp X.here hx rfl (hb hby hd) rfl q) kk
theorem g_aloadN (X : Stand p l e R s m args below meth c T locs cells slots) (hx : p.tables.exec = Jvm.exec) (hby : c.code = bs) {k : Fin 4} {v : Value} (hd : decode bs pc = .ok (.aload_n k, 1)) (hp : pc + 1 = pc') (hl : Ls[k.val]? = some (.val v)) (hr : v.isRef = true) (kk : Go p.tables e below s Q C S (T.setTop (mkF m pc' Ls (v :: st)))) : Go p.tables e below s Q C S (T.setTop (mkF m pc Ls (st))) := by
  subst hp
  exact Go.of (fun _ q => XS.aloadN X.here hx rfl (hb hby hd) hl hr q) kk
theorem g_aload (X : Stand p l e R s m args below meth c T locs cells slots) (hx : p.tables.exec = Jvm.exec) (hby : c.code = bs) {k : Nat} {v : Value} (hd : decode bs pc = .ok (.aload k, 2)) (hp : pc + 2 = pc') (hl : Ls[k]? = some (.val v)) (hr : v.isRef = true) (kk : Go p.tables e below s Q C S (T.setTop (mkF m pc' Ls (v :: st)))) : Go p.tables e below s Q C S (T.setTop (mkF m pc Ls (st))) := by
  subst hp
  exact Go.of (fun _ q => XS.aload X.here hx rfl (hb hby hd) hl hr q) kk
theorem g_astoreN (X : Stand p l e R s m args below meth c T locs cells slots) (hx : p.tables.exec = Jvm.exec) (hby : c.code = bs) {k : Fin 4} {v : Value} {L' : Array Slot} (hd : decode bs pc = .ok (.astore_n k, 1)) (hp : pc + 1 = pc') (hr : v.isRef = true) (hl : storeLocals Ls k.val v = some L') (kk : Go p.tables e below s Q C S (T.setTop (mkF m pc' L' (st)))) : Go p.tables e below s Q C S (T.setTop (mkF m pc Ls (v :: st))) := by
  subst hp
  exact Go.of (fun _ q => XS.astoreN X.here hx rfl (hb hby hd) rfl hr hl q) kk
theorem g_astore (X : Stand p l e R s m args below meth c T locs cells slots) (hx : p.tables.exec = Jvm.exec) (hby : c.code = bs) {k : Nat} {v : Value} {L' : Array Slot} (hd : decode bs pc = .ok (.astore k, 2)) (hp : pc + 2 = pc') (hr : v.isRef = true) (hl : storeLocals Ls k v = some L') (kk : Go p.tables e below s Q C S (T.setTop (mkF m pc' L' (st)))) : Go p.tables e below s Q C S (T.setTop (mkF m pc Ls (v :: st))) := by
  subst hp
  exact Go.of (fun _ q => XS.astore X.here hx rfl (hb hby hd) rfl hr hl q) kk
theorem g_iconst (X : Stand p l e R s m args below meth c T locs cells slots) (hx : p.tables.exec = Jvm.exec) (hby : c.code = bs) {i : Int} {z : Int32} (hd : decode bs pc = .ok (.iconst i, 1)) (hp : pc + 1 = pc') (hz : Int32.ofInt i = z) (kk : Go p.tables e below s Q C S (T.setTop (mkF m pc' Ls (.int z :: st)))) : Go p.tables e below s Q C S (T.setTop (mkF m pc Ls (st))) := by
  subst hp; subst hz
  exact Go.of (fun _ q => XS.iconst X.here hx rfl (hb hby hd) q) kk
theorem g_bipush (X : Stand p l e R s m args below meth c T locs cells slots) (hx : p.tables.exec = Jvm.exec) (hby : c.code = bs) {i : Int} {z : Int32} (hd : decode bs pc = .ok (.bipush i, 2)) (hp : pc + 2 = pc') (hz : (Int8.ofInt i).toInt32 = z) (kk : Go p.tables e below s Q C S (T.setTop (mkF m pc' Ls (.int z :: st)))) : Go p.tables e below s Q C S (T.setTop (mkF m pc Ls (st))) := by
  subst hp; subst hz
  exact Go.of (fun _ q => XS.bipush X.here hx rfl (hb hby hd) q) kk
theorem g_sipush (X : Stand p l e R s m args below meth c T locs cells slots) (hx : p.tables.exec = Jvm.exec) (hby : c.code = bs) {i : Int} {z : Int32} (hd : decode bs pc = .ok (.sipush i, 3)) (hp : pc + 3 = pc') (hz : (Int16.ofInt i).toInt32 = z) (kk : Go p.tables e below s Q C S (T.setTop (mkF m pc' Ls (.int z :: st)))) : Go p.tables e below s Q C S (T.setTop (mkF m pc Ls (st))) := by
  subst hp; subst hz
  exact Go.of (fun _ q => XS.sipush X.here hx rfl (hb hby hd) q) kk
theorem g_aconst_null (X : Stand p l e R s m args below meth c T locs cells slots) (hx : p.tables.exec = Jvm.exec) (hby : c.code = bs)  (hd : decode bs pc = .ok (.aconst_null, 1)) (hp : pc + 1 = pc')  (kk : Go p.tables e below s Q C S (T.setTop (mkF m pc' Ls (.null :: st)))) : Go p.tables e below s Q C S (T.setTop (mkF m pc Ls (st))) := by
  subst hp
  exact Go.of (fun _ q => XS.aconstNull X.here hx rfl (hb hby hd) q) kk
theorem g_iinc (X : Stand p l e R s m args below meth c T locs cells slots) (hx : p.tables.exec = Jvm.exec) (hby : c.code = bs) {k : Nat} {i : Int} {x : Int32} {L' : Array Slot} (hd : decode bs pc = .ok (.iinc k i, 3)) (hp : pc + 3 = pc') (hl : Ls[k]? = some (.val (.int x))) (hl' : storeLocals Ls k (.int (x + Int32.ofInt i)) = some L') (kk : Go p.tables e below s Q C S (T.setTop (mkF m pc' L' (st)))) : Go p.tables e below s Q C S (T.setTop (mkF m pc Ls (st))) := by
  subst hp
  exact Go.of (fun _ q => XS.iinc X.here hx rfl (hb hby hd) hl hl' q) kk
theorem g_dup (X : Stand p l e R s m args below meth c T locs cells slots) (hx : p.tables.exec = Jvm.exec) (hby : c.code = bs) {v : Value} (hd : decode bs pc = .ok (.dup, 1)) (hp : pc + 1 = pc') (hc : v.category = 1) (kk : Go p.tables e below s Q C S (T.setTop (mkF m pc' Ls (v :: v :: st)))) : Go p.tables e below s Q C S (T.setTop (mkF m pc Ls (v :: st))) := by
  subst hp
  exact Go.of (fun _ q => XS.dup X.here hx rfl (hb hby hd) rfl hc q) kk
theorem g_pop (X : Stand p l e R s m args below meth c T locs cells slots) (hx : p.tables.exec = Jvm.exec) (hby : c.code = bs) {v : Value} (hd : decode bs pc = .ok (.pop, 1)) (hp : pc + 1 = pc') (hc : v.category = 1) (kk : Go p.tables e below s Q C S (T.setTop (mkF m pc' Ls (st)))) : Go p.tables e below s Q C S (T.setTop (mkF m pc Ls (v :: st))) := by
  subst hp
  exact Go.of (fun _ q => XS.pop X.here hx rfl (hb hby hd) rfl hc q) kk
theorem g_dup_x1 (X : Stand p l e R s m args below meth c T locs cells slots) (hx : p.tables.exec = Jvm.exec) (hby : c.code = bs) {v w : Value} (hd : decode bs pc = .ok (.dup_x1, 1)) (hp : pc + 1 = pc') (hc : v.category = 1) (hc' : w.category = 1) (kk : Go p.tables e below s Q C S (T.setTop (mkF m pc' Ls (v :: w :: v :: st)))) : Go p.tables e below s Q C S (T.setTop (mkF m pc Ls (v :: w :: st))) := by
  subst hp
  exact Go.of (fun _ q => XS.dupX1 X.here hx rfl (hb hby hd) rfl hc hc' q) kk
theorem g_dup2 (X : Stand p l e R s m args below meth c T locs cells slots) (hx : p.tables.exec = Jvm.exec) (hby : c.code = bs) {v w : Value} (hd : decode bs pc = .ok (.dup2, 1)) (hp : pc + 1 = pc') (hc : v.category = 1) (hc' : w.category = 1) (kk : Go p.tables e below s Q C S (T.setTop (mkF m pc' Ls (v :: w :: v :: w :: st)))) : Go p.tables e below s Q C S (T.setTop (mkF m pc Ls (v :: w :: st))) := by
  subst hp
  exact Go.of (fun _ q => Jvm.Free.XT.dup2 X.here hx rfl (hb hby hd) rfl hc hc' q) kk
theorem g_goto (X : Stand p l e R s m args below meth c T locs cells slots) (hx : p.tables.exec = Jvm.exec) (hby : c.code = bs) {o : Int} (hd : decode bs pc = .ok (.goto o, 3)) (h0 : 0 ≤ (pc : Int) + o) (hp : ((pc : Int) + o).toNat = pc') (kk : Go p.tables e below s Q C S (T.setTop (mkF m pc' Ls st))) : Go p.tables e below s Q C S (T.setTop (mkF m pc Ls st)) :=
  Go.of (fun _ q => XS.goto X.here hx rfl (pc0 := pc) (pc' := pc') rfl (hb hby hd) h0 hp q) kk
theorem g_ifYes (X : Stand p l e R s m args below meth c T locs cells slots) (hx : p.tables.exec = Jvm.exec) (hby : c.code = bs) {cd : ClassFile.Cond} {x : Int32} {o : Int} (hd : decode bs pc = .ok (.ifCond cd o, 3)) (hc : if_icmp.holds cd x 0 = true) (h0 : 0 ≤ (pc : Int) + o) (hp : ((pc : Int) + o).toNat = pc') (kk : Go p.tables e below s Q C S (T.setTop (mkF m pc' Ls st))) : Go p.tables e below s Q C S (T.setTop (mkF m pc Ls (.int x :: st))) :=
  Go.of (fun _ q => XS.ifYes X.here hx rfl (pc0 := pc) (pc' := pc') rfl (hb hby hd) rfl ((if0 _ _).trans hc) h0 hp q) kk
theorem g_ifNo (X : Stand p l e R s m args below meth c T locs cells slots) (hx : p.tables.exec = Jvm.exec) (hby : c.code = bs) {cd : ClassFile.Cond} {x : Int32} {o : Int} (hd : decode bs pc = .ok (.ifCond cd o, 3)) (hc : if_icmp.holds cd x 0 = false) (hp : pc + 3 = pc') (kk : Go p.tables e below s Q C S (T.setTop (mkF m pc' Ls st))) : Go p.tables e below s Q C S (T.setTop (mkF m pc Ls (.int x :: st))) := by
  subst hp
  exact Go.of (fun _ q => XS.ifNo X.here hx rfl (hb hby hd) rfl ((if0 _ _).trans hc) q) kk
theorem g_icmpYes (X : Stand p l e R s m args below meth c T locs cells slots) (hx : p.tables.exec = Jvm.exec) (hby : c.code = bs) {cd : ClassFile.Cond} {x y : Int32} {o : Int} (hd : decode bs pc = .ok (.if_icmp cd o, 3)) (hc : if_icmp.holds cd x y = true) (h0 : 0 ≤ (pc : Int) + o) (hp : ((pc : Int) + o).toNat = pc') (kk : Go p.tables e below s Q C S (T.setTop (mkF m pc' Ls st))) : Go p.tables e below s Q C S (T.setTop (mkF m pc Ls (.int y :: .int x :: st))) :=
  Go.of (fun _ q => XS.icmpYes X.here hx rfl (pc0 := pc) (pc' := pc') rfl (hb hby hd) rfl hc h0 hp q) kk
theorem g_icmpNo (X : Stand p l e R s m args below meth c T locs cells slots) (hx : p.tables.exec = Jvm.exec) (hby : c.code = bs) {cd : ClassFile.Cond} {x y : Int32} {o : Int} (hd : decode bs pc = .ok (.if_icmp cd o, 3)) (hc : if_icmp.holds cd x y = false) (hp : pc + 3 = pc') (kk : Go p.tables e below s Q C S (T.setTop (mkF m pc' Ls st))) : Go p.tables e below s Q C S (T.setTop (mkF m pc Ls (.int y :: .int x :: st))) := by
  subst hp
  exact Go.of (fun _ q => XS.icmpNo X.here hx rfl (hb hby hd) rfl hc q) kk
theorem g_ldcI (X : Stand p l e R s m args below meth c T locs cells slots) (hx : p.tables.exec = Jvm.exec) (hby : c.code = bs) (hZ : Z.Warmed39 s.vm) (hown : s.vm.findClass own = some m.cls) {i : Nat} {z : Int32} (w : (Cond.constant own i z).before a0 Z = true) (hd : decode bs pc = .ok (.ldc i, 2)) (hp : pc + 2 = pc') (kk : Go p.tables e below s Q C S (T.setTop (mkF m pc' Ls (.int z :: st)))) : Go p.tables e below s Q C S (T.setTop (mkF m pc Ls st)) := by
  subst hp
  exact Go.of (fun _ q => X.ldcInt hx hown (mvT hZ w) (g := mkF m pc Ls st) rfl (hb hby hd) _ q) kk
theorem g_ldcwI (X : Stand p l e R s m args below meth c T locs cells slots) (hx : p.tables.exec = Jvm.exec) (hby : c.code = bs) (hZ : Z.Warmed39 s.vm) (hown : s.vm.findClass own = some m.cls) {i : Nat} {z : Int32} (w : (Cond.constant own i z).before a0 Z = true) (hd : decode bs pc = .ok (.ldc_w i, 3)) (hp : pc + 3 = pc') (kk : Go p.tables e below s Q C S (T.setTop (mkF m pc' Ls (.int z :: st)))) : Go p.tables e below s Q C S (T.setTop (mkF m pc Ls st)) := by
  subst hp
  exact Go.of (fun _ q => X.ldcwInt hx hown (mvT hZ w) (g := mkF m pc Ls st) rfl (hb hby hd) _ q) kk
theorem g_ldcL (X : Stand p l e R s m args below meth c T locs cells slots) (hx : p.tables.exec = Jvm.exec) (hby : c.code = bs) (hZ : Z.Warmed39 s.vm) (hown : s.vm.findClass own = some m.cls) {i : Nat} {z : Int64} (w : (Cond.constantLong own i z).before a0 Z = true) (hd : decode bs pc = .ok (.ldc2_w i, 3)) (hp : pc + 3 = pc') (kk : Go p.tables e below s Q C S (T.setTop (mkF m pc' Ls (.long z :: st)))) : Go p.tables e below s Q C S (T.setTop (mkF m pc Ls st)) := by
  subst hp
  exact Go.of (fun _ q => X.ldc2Long hx hown (mvT hZ w) (g := mkF m pc Ls st) rfl (hb hby hd) _ q) kk
theorem g_ldcD (X : Stand p l e R s m args below meth c T locs cells slots) (hx : p.tables.exec = Jvm.exec) (hby : c.code = bs) (hZ : Z.Warmed39 s.vm) (hown : s.vm.findClass own = some m.cls) {i : Nat} {z : UInt64} (w : (Cond.constantDouble own i z).before a0 Z = true) (hd : decode bs pc = .ok (.ldc2_w i, 3)) (hp : pc + 3 = pc') (kk : Go p.tables e below s Q C S (T.setTop (mkF m pc' Ls (.double z :: st)))) : Go p.tables e below s Q C S (T.setTop (mkF m pc Ls st)) := by
  subst hp
  exact Go.of (fun _ q => X.ldc2DoubleC hx hown (mvT hZ w) (g := mkF m pc Ls st) rfl (hb hby hd) _ q) kk
theorem g_getf (X : Stand p l e R s m args below meth c T locs cells slots) (hx : p.tables.exec = Jvm.exec) (hby : c.code = bs) (hZ : Z.Warmed39 s.vm) {R0 O n d host : String} {i : Nat} (hown : s.vm.findClass own = some m.cls) (w : (Cond.fieldLink own i R0 n d).before a0 Z = true ∨ (Cond.fieldLinkNest own i R0 n d host).before a0 Z = true) (via : Via Z R0 O n d) (eT : T.heap = h) {a : Addr} {v : Value} (F : Fld Z h a O n d v) (hd : decode bs pc = .ok (.getfield i, 3)) (hp : pc + 3 = pc') (kk : ∀ T', Stand p l e R s m args below meth c T' locs cells slots → T'.heap = h → Go p.tables e below s Q C S (T'.setTop (mkF m pc' Ls (v :: st)))) : Go p.tables e below s Q C S (T.setTop (mkF m pc Ls (.ref a :: st))) := by
  subst hp
  obtain ⟨T', X', e', q⟩ := getF X hx hZ hown w via eT F (g := mkF m pc Ls (.ref a :: st)) rfl rfl (hb hby hd)
  exact Go.of q (kk T' X' e')
theorem g_putf (X : Stand p l e R s m args below meth c T locs cells slots) (hx : p.tables.exec = Jvm.exec) (hby : c.code = bs) (hZ : Z.Warmed39 s.vm) {R0 O n d host : String} {i : Nat} (hown : s.vm.findClass own = some m.cls) (w : (Cond.fieldLink own i R0 n d).before a0 Z = true ∨ (Cond.fieldLinkNest own i R0 n d host).before a0 Z = true) (via : Via Z R0 O n d) (eT : T.heap = h) {a : Addr} {v old : Value} {K : String} {kk' : Nat} {ty : FieldType} (F : Fld Z h a O n d old) (E : Exa Z h a K) (L : (Cond.lays K O n d).before a0 Z = true ∨ ((Cond.laysFinal K O n d).before a0 Z = true ∧ own = O ∧ meth.name = "<init>")) (wi : (Cond.instantiable K kk').before a0 Z = true) (hty : parseFieldDescriptor d = some ty) (hn : narrow ty v = v) (hf : fits ty v = true) (hd : decode bs pc = .ok (.putfield i, 3)) (hp : pc + 3 = pc')
    (kk : ∀ T' h', Stand p l e R s m args below meth c T' (locs ++ [⟨a, Jvm.RoadKit.slotOf Z O n d⟩]) cells slots → T'.heap = h' → Wr h h' a (Jvm.RoadKit.slotOf Z O n d) v → Fld Z h' a O n d v → Go p.tables e below s Q C S (T'.setTop (mkF m pc' Ls st))) : Go p.tables e below s Q C S (T.setTop (mkF m pc Ls (v :: .ref a :: st))) := by
  subst hp
  obtain ⟨T', h', X', e', W, q⟩ := putF X hx hZ hown w via eT F E L wi hty hn hf (g := mkF m pc Ls (v :: .ref a :: st)) rfl rfl (hb hby hd)
  exact Go.of q (kk T' h' X' e' W (F.same W))
theorem g_new (X : Stand p l e R s m args below meth c T locs cells slots) (hx : p.tables.exec = Jvm.exec) (hby : c.code = bs) (hZ : Z.Warmed39 s.vm) {K : String} {i n : Nat} (hown : s.vm.findClass own = some m.cls) (w : (Cond.classLink own i K).before a0 Z = true) (wi : (Cond.instantiable K n).before a0 Z = true) (wz : (Cond.initialized K).before a0 Z = true) (eT : T.heap = h) (hd : decode bs pc = .ok (.new i, 3)) (hp : pc + 3 = pc') (hc : cells + 1 ≤ R.cells) (hl : slots + n ≤ R.slots)
    (kk : ∀ T' h' b, Stand p l e R s m args below meth c T' locs (cells + 1) (slots + n) → T'.heap = h' → Ext h h' → b = h.size → Exa Z h' b K → (∀ {O nm d : String} {ty : FieldType}, Laid Z a0 K O nm d → parseFieldDescriptor d = some ty → Fld Z h' b O nm d (defaultValue ty)) → Go p.tables e below s Q C S (T'.setTop (mkF m pc' Ls (.ref b :: st)))) : Go p.tables e below s Q C S (T.setTop (mkF m pc Ls st)) := by
  subst hp
  obtain ⟨T', h', X', e', E, A, D, -, q⟩ := newO X hx hZ hown w wi wz eT (g := mkF m pc Ls st) rfl (hb hby hd) hc hl
  exact Go.of q (kk T' h' h.size X' e' E rfl A D)
theorem g_init (X : Stand p l e R s m args below meth c T locs cells slots) (hx : p.tables.exec = Jvm.exec) (hby : c.code = bs) (hZ : Z.Warmed39 s.vm) {i : Nat} (hown : s.vm.findClass own = some m.cls) (w1 : (Cond.methodLink own i Lib.objectInit).before a0 Z = true) (w2 : (Cond.instanceMethod Lib.objectInit).before a0 Z = true) (w3 : (Cond.code Lib.objectInit ⟨#[0xb1]⟩ 1 none).before a0 Z = true) (eT : T.heap = h) {a : Addr} {W : Nat} (hsz : Ls.size = c.maxLocals) (hd : decode bs pc = .ok (.invokespecial i, 3)) (hp : pc + 3 = pc') (hf : 1 ≤ R.frames) (hW : (st.map fun v => v.category).sum = W) (hl : W + 12 ≤ R.locals) (kk : ∀ T', Stand p l e R s m args below meth c T' locs cells slots → T'.heap = h → Go p.tables e below s Q C S (T'.setTop (mkF m pc' Ls st))) : Go p.tables e below s Q C S (T.setTop (mkF m pc Ls (.ref a :: st))) := by
  subst hp
  obtain ⟨T', X', e', q⟩ := initO X hx hZ hown w1 w2 w3 eT (g := mkF m pc Ls (.ref a :: st)) rfl hsz rfl (hb hby hd) hf (W := W) (by show 2 * 0 + _ ≤ _; rw [hW]; omega) hl
  exact Go.of q (kk T' X' e')
end Steps1
end Jvm.OwnKit
namespace Jvm.Pilot.@@N@@
open Jvm Jvm.ClassFile Sem Op Lib Jvm.Free Jvm.Stand Jvm.LawKit Jvm.RoadKit Jvm.OwnKit Bundle Jvm.Pilot.@@N@@.Jvm.D
theorem wi {a0 : Array Value} {Z : State} (hw : ∀ d ∈ tables_1, d.before a0 Z = true) {d : Jvm.Cond} (i : Nat) (h : tables_1[i]? = some d) : d.before a0 Z = true := hw d (List.mem_of_getElem? h)
def own_live (i n m : Int32) : Int32 := if i.toInt < n.toInt ∧ ((m >>> (i &&& 31)) &&& (1 : Int32)).toInt = 0 then 1 else 0
def own_nl (g : Nat → Int32) : Nat → Nat → Int32
  | 0, i => Int32.ofNat i
  | d + 1, i => if (g i).toInt = -1 then own_nl g d (i + 1) else Int32.ofNat i
def own_rm (g : Nat → Int32) (m b : Int32) (k : Nat) : Nat → Int32 := if (m &&& b).toInt = 0 then g else upI g k (-1)
def own_ei (i : Int) (iv s n m prev : Int32) : Int32 := if ¬ (i < s.toInt) ∧ ¬ ((own_live iv n m).toInt = 0) then iv else prev
theorem own_bits : ∀ k : Fin 16, (((Int32.ofNat k &&& 1).toInt = 0 ↔ ((Int32.ofNat k >>> ((0 : Int32) &&& 31)) &&& (1 : Int32)).toInt = 0) ∧ ((Int32.ofNat k &&& 2).toInt = 0 ↔ ((Int32.ofNat k >>> ((1 : Int32) &&& 31)) &&& (1 : Int32)).toInt = 0) ∧ ((Int32.ofNat k &&& 4).toInt = 0 ↔ ((Int32.ofNat k >>> ((2 : Int32) &&& 31)) &&& (1 : Int32)).toInt = 0) ∧ ((Int32.ofNat k &&& 8).toInt = 0 ↔ ((Int32.ofNat k >>> ((3 : Int32) &&& 31)) &&& (1 : Int32)).toInt = 0)) := by decide
theorem own_bits' (m : Int32) (h : 0 ≤ m.toInt ∧ m.toInt ≤ 15) : (((m &&& 1).toInt = 0 ↔ ((m >>> ((0 : Int32) &&& 31)) &&& (1 : Int32)).toInt = 0) ∧ ((m &&& 2).toInt = 0 ↔ ((m >>> ((1 : Int32) &&& 31)) &&& (1 : Int32)).toInt = 0) ∧ ((m &&& 4).toInt = 0 ↔ ((m >>> ((2 : Int32) &&& 31)) &&& (1 : Int32)).toInt = 0) ∧ ((m &&& 8).toInt = 0 ↔ ((m >>> ((3 : Int32) &&& 31)) &&& (1 : Int32)).toInt = 0)) := by
  have e : m = Int32.ofNat m.toInt.toNat := by
    apply Int32.toInt_inj.mp
    rw [Int32.toInt_ofNat_of_lt (by omega)]; omega
  have := own_bits ⟨m.toInt.toNat, by omega⟩
  rw [← e] at this
  exact this
theorem own_one (z : Int32) (P : Prop) [Decidable P] (h : z = if P then 1 else 0) : (¬ (z.toInt = 0)) ↔ P := by
  subst h; split <;> simp_all <;> decide
theorem own_lv (iv n m : Int32) (i k : Int) (hi : iv.toInt = i) (hn : n.toInt = k) : (¬ ((own_live iv n m).toInt = 0)) ↔ (i < k ∧ ((m >>> (iv &&& 31)) &&& (1 : Int32)).toInt = 0) := by
  rw [own_one (own_live iv n m) (i < k ∧ ((m >>> (iv &&& 31)) &&& (1 : Int32)).toInt = 0)]
  subst hi hn; rfl
theorem own_eiq (iv s n m prev : Int32) (i k : Int) (hi : iv.toInt = i) (hn : n.toInt = k) (P : Prop) [Decidable P] (hP : P ↔ ((m >>> (iv &&& 31)) &&& (1 : Int32)).toInt = 0) : own_ei i iv s n m prev = if ¬ (i < s.toInt) ∧ i < k ∧ P then iv else prev := by
  unfold own_ei
  have := own_lv iv n m i k hi hn
  by_cases c : ¬ (i < s.toInt) ∧ i < k ∧ P
  · rw [if_pos c, if_pos ⟨c.1, this.mpr ⟨c.2.1, hP.mp c.2.2⟩⟩]
  · rw [if_neg c, if_neg]
    intro q; exact c ⟨q.1, (this.mp q.2).1, hP.mpr (this.mp q.2).2⟩
theorem own_fin0 (g : Nat → Int32) (m s : Int32) (ks : Nat) (hm : 0 ≤ m.toInt ∧ m.toInt ≤ 15) (hs : s.toInt = (ks : Int)) (hk : ks ≤ 0)  :
    own_nl g (0 - ks) ks = own_ei 0 0 s 0 m (own_ei 1 1 s 0 m (own_ei 2 2 s 0 m (own_ei 3 3 s 0 m 0))) := by
  obtain ⟨b0, b1, b2, b3⟩ := own_bits' m hm
  rw [own_eiq 0 s 0 m _ 0 0 rfl rfl _ b0, own_eiq 1 s 0 m _ 1 0 rfl rfl _ b1, own_eiq 2 s 0 m _ 2 0 rfl rfl _ b2, own_eiq 3 s 0 m _ 3 0 rfl rfl _ b3, hs]
  have hc : ks = 0 := by omega
  subst hc <;> simp [own_nl, upI] <;> rfl
theorem own_fin1 (g : Nat → Int32) (m s : Int32) (ks : Nat) (hm : 0 ≤ m.toInt ∧ m.toInt ≤ 15) (hs : s.toInt = (ks : Int)) (hk : ks ≤ 1) (h0 : 0 ≤ (g 0).toInt) :
    own_nl (own_rm g m 1 0) (1 - ks) ks = own_ei 0 0 s 1 m (own_ei 1 1 s 1 m (own_ei 2 2 s 1 m (own_ei 3 3 s 1 m 1))) := by
  obtain ⟨b0, b1, b2, b3⟩ := own_bits' m hm
  rw [own_eiq 0 s 1 m _ 0 1 rfl rfl _ b0, own_eiq 1 s 1 m _ 1 1 rfl rfl _ b1, own_eiq 2 s 1 m _ 2 1 rfl rfl _ b2, own_eiq 3 s 1 m _ 3 1 rfl rfl _ b3, hs]
  have g0 : ¬ (g 0).toInt = -1 := by omega
  have hc : ks = 0 ∨ ks = 1 := by omega
  unfold own_rm
  by_cases c0 : (m &&& 1).toInt = 0 <;>
    rcases hc with rfl | rfl <;> simp [c0, own_nl, upI, g0] <;> rfl
theorem own_fin2 (g : Nat → Int32) (m s : Int32) (ks : Nat) (hm : 0 ≤ m.toInt ∧ m.toInt ≤ 15) (hs : s.toInt = (ks : Int)) (hk : ks ≤ 2) (h0 : 0 ≤ (g 0).toInt) (h1 : 0 ≤ (g 1).toInt) :
    own_nl (own_rm (own_rm g m 1 0) m 2 1) (2 - ks) ks = own_ei 0 0 s 2 m (own_ei 1 1 s 2 m (own_ei 2 2 s 2 m (own_ei 3 3 s 2 m 2))) := by
  obtain ⟨b0, b1, b2, b3⟩ := own_bits' m hm
  rw [own_eiq 0 s 2 m _ 0 2 rfl rfl _ b0, own_eiq 1 s 2 m _ 1 2 rfl rfl _ b1, own_eiq 2 s 2 m _ 2 2 rfl rfl _ b2, own_eiq 3 s 2 m _ 3 2 rfl rfl _ b3, hs]
  have g0 : ¬ (g 0).toInt = -1 := by omega
  have g1 : ¬ (g 1).toInt = -1 := by omega
  have hc : ks = 0 ∨ ks = 1 ∨ ks = 2 := by omega
  unfold own_rm
  by_cases c0 : (m &&& 1).toInt = 0 <;> by_cases c1 : (m &&& 2).toInt = 0 <;>
    rcases hc with rfl | rfl | rfl <;> simp [c0, c1, own_nl, upI, g0, g1] <;> rfl
theorem own_fin3 (g : Nat → Int32) (m s : Int32) (ks : Nat) (hm : 0 ≤ m.toInt ∧ m.toInt ≤ 15) (hs : s.toInt = (ks : Int)) (hk : ks ≤ 3) (h0 : 0 ≤ (g 0).toInt) (h1 : 0 ≤ (g 1).toInt) (h2 : 0 ≤ (g 2).toInt) :
    own_nl (own_rm (own_rm (own_rm g m 1 0) m 2 1) m 4 2) (3 - ks) ks = own_ei 0 0 s 3 m (own_ei 1 1 s 3 m (own_ei 2 2 s 3 m (own_ei 3 3 s 3 m 3))) := by
  obtain ⟨b0, b1, b2, b3⟩ := own_bits' m hm
  rw [own_eiq 0 s 3 m _ 0 3 rfl rfl _ b0, own_eiq 1 s 3 m _ 1 3 rfl rfl _ b1, own_eiq 2 s 3 m _ 2 3 rfl rfl _ b2, own_eiq 3 s 3 m _ 3 3 rfl rfl _ b3, hs]
  have g0 : ¬ (g 0).toInt = -1 := by omega
  have g1 : ¬ (g 1).toInt = -1 := by omega
  have g2 : ¬ (g 2).toInt = -1 := by omega
  have hc : ks = 0 ∨ ks = 1 ∨ ks = 2 ∨ ks = 3 := by omega
  unfold own_rm
  by_cases c0 : (m &&& 1).toInt = 0 <;> by_cases c1 : (m &&& 2).toInt = 0 <;> by_cases c2 : (m &&& 4).toInt = 0 <;>
    rcases hc with rfl | rfl | rfl | rfl <;> simp [c0, c1, c2, own_nl, upI, g0, g1, g2] <;> rfl
theorem own_fin4 (g : Nat → Int32) (m s : Int32) (ks : Nat) (hm : 0 ≤ m.toInt ∧ m.toInt ≤ 15) (hs : s.toInt = (ks : Int)) (hk : ks ≤ 4) (h0 : 0 ≤ (g 0).toInt) (h1 : 0 ≤ (g 1).toInt) (h2 : 0 ≤ (g 2).toInt) (h3 : 0 ≤ (g 3).toInt) :
    own_nl (own_rm (own_rm (own_rm (own_rm g m 1 0) m 2 1) m 4 2) m 8 3) (4 - ks) ks = own_ei 0 0 s 4 m (own_ei 1 1 s 4 m (own_ei 2 2 s 4 m (own_ei 3 3 s 4 m 4))) := by
  obtain ⟨b0, b1, b2, b3⟩ := own_bits' m hm
  rw [own_eiq 0 s 4 m _ 0 4 rfl rfl _ b0, own_eiq 1 s 4 m _ 1 4 rfl rfl _ b1, own_eiq 2 s 4 m _ 2 4 rfl rfl _ b2, own_eiq 3 s 4 m _ 3 4 rfl rfl _ b3, hs]
  have g0 : ¬ (g 0).toInt = -1 := by omega
  have g1 : ¬ (g 1).toInt = -1 := by omega
  have g2 : ¬ (g 2).toInt = -1 := by omega
  have g3 : ¬ (g 3).toInt = -1 := by omega
  have hc : ks = 0 ∨ ks = 1 ∨ ks = 2 ∨ ks = 3 ∨ ks = 4 := by omega
  unfold own_rm
  by_cases c0 : (m &&& 1).toInt = 0 <;> by_cases c1 : (m &&& 2).toInt = 0 <;> by_cases c2 : (m &&& 4).toInt = 0 <;> by_cases c3 : (m &&& 8).toInt = 0 <;>
    rcases hc with rfl | rfl | rfl | rfl | rfl <;> simp [c0, c1, c2, c3, own_nl, upI, g0, g1, g2, g3] <;> rfl
theorem own_ofn (z : Int32) (k : Nat) (h : z.toInt = (k : Int)) (hk : k < 2 ^ 31) : Int32.ofNat k = z := by
  apply Int32.toInt_inj.mp
  rw [h, Int32.toInt_ofNat_of_lt (by omega)]
theorem d1_0 : decode prog_12_method_1_code 0 = .ok (.aload_n 0, 1) := by decide +kernel
theorem d1_1 : decode prog_12_method_1_code 1 = .ok (.invokespecial 1, 3) := by decide +kernel
theorem d1_4 : decode prog_12_method_1_code 4 = .ok (.aload_n 0, 1) := by decide +kernel
theorem d1_5 : decode prog_12_method_1_code 5 = .ok (.iconst 0, 1) := by decide +kernel
theorem d1_6 : decode prog_12_method_1_code 6 = .ok (.newarray .int, 2) := by decide +kernel
theorem d1_8 : decode prog_12_method_1_code 8 = .ok (.putfield 7, 3) := by decide +kernel
theorem d1_11 : decode prog_12_method_1_code 11 = .ok (.aload_n 0, 1) := by decide +kernel
theorem d1_12 : decode prog_12_method_1_code 12 = .ok (.iconst 0, 1) := by decide +kernel
theorem d1_13 : decode prog_12_method_1_code 13 = .ok (.newarray .int, 2) := by decide +kernel
theorem d1_15 : decode prog_12_method_1_code 15 = .ok (.putfield 13, 3) := by decide +kernel
theorem d1_18 : decode prog_12_method_1_code 18 = .ok (.aload_n 0, 1) := by decide +kernel
theorem d1_19 : decode prog_12_method_1_code 19 = .ok (.iconst 0, 1) := by decide +kernel
theorem d1_20 : decode prog_12_method_1_code 20 = .ok (.newarray .int, 2) := by decide +kernel
theorem d1_22 : decode prog_12_method_1_code 22 = .ok (.putfield 16, 3) := by decide +kernel
theorem d1_25 : decode prog_12_method_1_code 25 = .ok (.aload_n 0, 1) := by decide +kernel
theorem d1_26 : decode prog_12_method_1_code 26 = .ok (.iconst 0, 1) := by decide +kernel
theorem d1_27 : decode prog_12_method_1_code 27 = .ok (.newarray .int, 2) := by decide +kernel
theorem d1_29 : decode prog_12_method_1_code 29 = .ok (.putfield 19, 3) := by decide +kernel
theorem d1_32 : decode prog_12_method_1_code 32 = .ok (.aload_n 0, 1) := by decide +kernel
theorem d1_33 : decode prog_12_method_1_code 33 = .ok (.iconst 0, 1) := by decide +kernel
theorem d1_34 : decode prog_12_method_1_code 34 = .ok (.newarray .double, 2) := by decide +kernel
theorem d1_36 : decode prog_12_method_1_code 36 = .ok (.putfield 22, 3) := by decide +kernel
theorem d1_39 : decode prog_12_method_1_code 39 = .ok (.aload_n 0, 1) := by decide +kernel
theorem d1_40 : decode prog_12_method_1_code 40 = .ok (.iconst 0, 1) := by decide +kernel
theorem d1_41 : decode prog_12_method_1_code 41 = .ok (.newarray .int, 2) := by decide +kernel
theorem d1_43 : decode prog_12_method_1_code 43 = .ok (.putfield 26, 3) := by decide +kernel
theorem d1_46 : decode prog_12_method_1_code 46 = .ok (.aload_n 0, 1) := by decide +kernel
theorem d1_47 : decode prog_12_method_1_code 47 = .ok (.iconst 0, 1) := by decide +kernel
theorem d1_48 : decode prog_12_method_1_code 48 = .ok (.newarray .long, 2) := by decide +kernel
theorem d1_50 : decode prog_12_method_1_code 50 = .ok (.putfield 29, 3) := by decide +kernel
theorem d1_53 : decode prog_12_method_1_code 53 = .ok (.aload_n 0, 1) := by decide +kernel
theorem d1_54 : decode prog_12_method_1_code 54 = .ok (.iload_n 1, 1) := by decide +kernel
theorem d1_55 : decode prog_12_method_1_code 55 = .ok (.putfield 33, 3) := by decide +kernel
theorem d1_58 : decode prog_12_method_1_code 58 = .ok (.return_, 1) := by decide +kernel
theorem ef_rm_init0 (m : MethodId) (x0 : Addr) : entryFrame m #[(.ref x0), (.int (0 : Int32))] 2 = mkF m 0 #[.val (.ref x0), .val (.int (0 : Int32))] [] := by first | (simp [entryFrame, mkF, argsToLocals, Value.category]; done) | rfl
theorem pn_com_example_edgewise_edgewise_EdgeSlots : plainName "com/example/edgewise/edgewise/EdgeSlots" = true := by first | (simp [plainName, overriddenIn]; done) | decide +kernel
set_option maxRecDepth 65536 in
set_option maxHeartbeats 40000000 in
theorem rm_init0 (l : Launch) (Z : State) (a0 : Array Value) (hw : ∀ d ∈ tables_1, d.before a0 Z = true) (a1 : Addr) (h0 : Heap) (n0 : Nat) (Z0 : n0 ≤ h0.size) (P0 : Exa Z h0 a1 "com/example/edgewise/edgewise/EdgeSlots") (P1 : Fld Z h0 a1 "com/example/edgewise/edgewise/EdgeSlots" "sources" "[I" .null) (P2 : Fld Z h0 a1 "com/example/edgewise/edgewise/EdgeSlots" "targets" "[I" .null) (P3 : Fld Z h0 a1 "com/example/edgewise/edgewise/EdgeSlots" "sourcePositions" "[I" .null) (P4 : Fld Z h0 a1 "com/example/edgewise/edgewise/EdgeSlots" "targetPositions" "[I" .null) (P5 : Fld Z h0 a1 "com/example/edgewise/edgewise/EdgeSlots" "weights" "[D" .null) (P6 : Fld Z h0 a1 "com/example/edgewise/edgewise/EdgeSlots" "keys" "[I" .null) (P7 : Fld Z h0 a1 "com/example/edgewise/edgewise/EdgeSlots" "keptNumbers" "[J" .null) (P8 : Fld Z h0 a1 "com/example/edgewise/edgewise/EdgeSlots" "keyed" "Z" (.int (0 : Int32))) (P9 : Fld Z h0 a1 "com/example/edgewise/edgewise/EdgeSlots" "bound" "I" (.int (0 : Int32))) (P10 : Fld Z h0 a1 "com/example/edgewise/edgewise/EdgeSlots" "count" "I" (.int (0 : Int32))) (P11 : Fld Z h0 a1 "com/example/edgewise/edgewise/EdgeSlots" "nextNumber" "J" (.long (0 : Int64))) (ge_a1 : n0 ≤ a1) :
    Con l Z (⟨"com/example/edgewise/edgewise/EdgeSlots", "<init>", "(Z)V"⟩ : MethodName) prog_12_method_1_code 2 none ({ frames := 1, cells := 7, slots := 0, locals := 12 } : Room) #[(.ref a1), (.int (0 : Int32))] h0 (fun v h L => ∃ (b1 : Addr) (b2 : Addr) (b3 : Addr) (b4 : Addr) (b5 : Addr) (b6 : Addr) (b7 : Addr), v = none ∧ Fr n0 L ∧ Keep h0 h [a1] ∧ n0 ≤ b1 ∧ h0.size ≤ b1 ∧ n0 ≤ b2 ∧ h0.size ≤ b2 ∧ n0 ≤ b3 ∧ h0.size ≤ b3 ∧ n0 ≤ b4 ∧ h0.size ≤ b4 ∧ n0 ≤ b5 ∧ h0.size ≤ b5 ∧ n0 ≤ b6 ∧ h0.size ≤ b6 ∧ n0 ≤ b7 ∧ h0.size ≤ b7 ∧ b1 ≠ b2 ∧ b1 ≠ b3 ∧ b1 ≠ b4 ∧ b1 ≠ b5 ∧ b1 ≠ b6 ∧ b1 ≠ b7 ∧ b2 ≠ b3 ∧ b2 ≠ b4 ∧ b2 ≠ b5 ∧ b2 ≠ b6 ∧ b2 ≠ b7 ∧ b3 ≠ b4 ∧ b3 ≠ b5 ∧ b3 ≠ b6 ∧ b3 ≠ b7 ∧ b4 ≠ b5 ∧ b4 ≠ b6 ∧ b4 ≠ b7 ∧ b5 ≠ b6 ∧ b5 ≠ b7 ∧ b6 ≠ b7 ∧ Fld Z h a1 "com/example/edgewise/edgewise/EdgeSlots" "sources" "[I" (.ref b1) ∧ Fld Z h a1 "com/example/edgewise/edgewise/EdgeSlots" "targets" "[I" (.ref b2) ∧ Fld Z h a1 "com/example/edgewise/edgewise/EdgeSlots" "sourcePositions" "[I" (.ref b3) ∧ Fld Z h a1 "com/example/edgewise/edgewise/EdgeSlots" "targetPositions" "[I" (.ref b4) ∧ Fld Z h a1 "com/example/edgewise/edgewise/EdgeSlots" "weights" "[D" (.ref b5) ∧ Fld Z h a1 "com/example/edgewise/edgewise/EdgeSlots" "keys" "[I" (.ref b6) ∧ Fld Z h a1 "com/example/edgewise/edgewise/EdgeSlots" "keptNumbers" "[J" (.ref b7) ∧ Fld Z h a1 "com/example/edgewise/edgewise/EdgeSlots" "keyed" "Z" (.int (0 : Int32)) ∧ Fld Z h a1 "com/example/edgewise/edgewise/EdgeSlots" "bound" "I" (.int (0 : Int32)) ∧ Fld Z h a1 "com/example/edgewise/edgewise/EdgeSlots" "count" "I" (.int (0 : Int32)) ∧ Fld Z h a1 "com/example/edgewise/edgewise/EdgeSlots" "nextNumber" "J" (.long (0 : Int64)) ∧ ArF Z h b1 .int 0 (fun i => .int ((fun _ => (0 : Int32)) i)) ∧ ArF Z h b2 .int 0 (fun i => .int ((fun _ => (0 : Int32)) i)) ∧ ArF Z h b3 .int 0 (fun i => .int ((fun _ => (0 : Int32)) i)) ∧ ArF Z h b4 .int 0 (fun i => .int ((fun _ => (0 : Int32)) i)) ∧ ArF Z h b5 .double 0 (fun i => .double ((fun _ => (0 : UInt64)) i)) ∧ ArF Z h b6 .int 0 (fun i => .int ((fun _ => (0 : Int32)) i)) ∧ ArF Z h b7 .long 0 (fun i => .long ((fun _ => (0 : Int64)) i))) := by
  refine meet (y := (⟨"com/example/edgewise/edgewise/EdgeSlots", "<init>", "(Z)V"⟩ : MethodName)) (Q := fun v h L => ∃ (b1 : Addr) (b2 : Addr) (b3 : Addr) (b4 : Addr) (b5 : Addr) (b6 : Addr) (b7 : Addr), v = none ∧ Fr n0 L ∧ Keep h0 h [a1] ∧ n0 ≤ b1 ∧ h0.size ≤ b1 ∧ n0 ≤ b2 ∧ h0.size ≤ b2 ∧ n0 ≤ b3 ∧ h0.size ≤ b3 ∧ n0 ≤ b4 ∧ h0.size ≤ b4 ∧ n0 ≤ b5 ∧ h0.size ≤ b5 ∧ n0 ≤ b6 ∧ h0.size ≤ b6 ∧ n0 ≤ b7 ∧ h0.size ≤ b7 ∧ b1 ≠ b2 ∧ b1 ≠ b3 ∧ b1 ≠ b4 ∧ b1 ≠ b5 ∧ b1 ≠ b6 ∧ b1 ≠ b7 ∧ b2 ≠ b3 ∧ b2 ≠ b4 ∧ b2 ≠ b5 ∧ b2 ≠ b6 ∧ b2 ≠ b7 ∧ b3 ≠ b4 ∧ b3 ≠ b5 ∧ b3 ≠ b6 ∧ b3 ≠ b7 ∧ b4 ≠ b5 ∧ b4 ≠ b6 ∧ b4 ≠ b7 ∧ b5 ≠ b6 ∧ b5 ≠ b7 ∧ b6 ≠ b7 ∧ Fld Z h a1 "com/example/edgewise/edgewise/EdgeSlots" "sources" "[I" (.ref b1) ∧ Fld Z h a1 "com/example/edgewise/edgewise/EdgeSlots" "targets" "[I" (.ref b2) ∧ Fld Z h a1 "com/example/edgewise/edgewise/EdgeSlots" "sourcePositions" "[I" (.ref b3) ∧ Fld Z h a1 "com/example/edgewise/edgewise/EdgeSlots" "targetPositions" "[I" (.ref b4) ∧ Fld Z h a1 "com/example/edgewise/edgewise/EdgeSlots" "weights" "[D" (.ref b5) ∧ Fld Z h a1 "com/example/edgewise/edgewise/EdgeSlots" "keys" "[I" (.ref b6) ∧ Fld Z h a1 "com/example/edgewise/edgewise/EdgeSlots" "keptNumbers" "[J" (.ref b7) ∧ Fld Z h a1 "com/example/edgewise/edgewise/EdgeSlots" "keyed" "Z" (.int (0 : Int32)) ∧ Fld Z h a1 "com/example/edgewise/edgewise/EdgeSlots" "bound" "I" (.int (0 : Int32)) ∧ Fld Z h a1 "com/example/edgewise/edgewise/EdgeSlots" "count" "I" (.int (0 : Int32)) ∧ Fld Z h a1 "com/example/edgewise/edgewise/EdgeSlots" "nextNumber" "J" (.long (0 : Int64)) ∧ ArF Z h b1 .int 0 (fun i => .int ((fun _ => (0 : Int32)) i)) ∧ ArF Z h b2 .int 0 (fun i => .int ((fun _ => (0 : Int32)) i)) ∧ ArF Z h b3 .int 0 (fun i => .int ((fun _ => (0 : Int32)) i)) ∧ ArF Z h b4 .int 0 (fun i => .int ((fun _ => (0 : Int32)) i)) ∧ ArF Z h b5 .double 0 (fun i => .double ((fun _ => (0 : UInt64)) i)) ∧ ArF Z h b6 .int 0 (fun i => .int ((fun _ => (0 : Int32)) i)) ∧ ArF Z h b7 .long 0 (fun i => .long ((fun _ => (0 : Int64)) i))) (plainFor_of_name pn_com_example_edgewise_edgewise_EdgeSlots) (fun m => ef_rm_init0 m a1) ?_
  intro p e s m below meth c T0 hx hby hml hZ hown hnm hret hlk X0 e0
  have N0 := Fr.nil n0
  have K0 := Keep.refl h0 [a1]
  refine g_aloadN X0 hx hby d1_0 (pc' := 1) rfl rfl rfl ?_
  refine g_init X0 hx hby hZ hown (wi hw 7 rfl) (wi hw 8 rfl) (wi hw 9 rfl) e0 (by rw [hml]; rfl) d1_1 (pc' := 4) rfl (by decide) (W := 0) rfl (by decide) ?_
  intro T1 X1 e1
  refine g_aloadN X1 hx hby d1_4 (pc' := 5) rfl rfl rfl ?_
  refine g_iconst X1 hx hby d1_5 (pc' := 6) rfl (z := (0 : Int32)) rfl ?_
  refine Go.newarr X1 hx hZ (n := 0) (cap := 0) (ty := .int) rfl (wi hw 10 rfl) e1 (by decide) rfl (by decide) (by decide) (by decide) (by decide) (hb hby d1_6) ?_
  intro T2 h2 b2 X2 e2 E2 hb2 V2
  have g3 : n0 ≤ b2 := by rw [hb2]; exact Z0
  have s4 : h0.size ≤ b2 := by rw [hb2]; exact K0.1
  have V5 : ArF Z h2 b2 .int 0 (fun i => .int ((fun _ => (0 : Int32)) i)) := V2
  show Go p.tables e below s _ _ _ (T2.setTop (mkF m 8 #[.val (.ref a1), .val (.int (0 : Int32))] [(.ref b2), (.ref a1)]))
  have f6 := P1.ext E2
  have f7 := P0.ext E2
  refine g_putf X2 hx hby hZ hown (host := "") (Or.inl (wi hw 11 rfl)) Via.refl e2 f6 f7 (Or.inl (wi hw 12 rfl)) (wi hw 2 rfl) (ty := (.array .int)) (by decide) rfl rfl d1_8 (pc' := 11) rfl ?_
  intro T8 h8 X8 e8 W8 F8
  refine g_aloadN X8 hx hby d1_11 (pc' := 12) rfl rfl rfl ?_
  refine g_iconst X8 hx hby d1_12 (pc' := 13) rfl (z := (0 : Int32)) rfl ?_
  refine Go.newarr X8 hx hZ (n := 0) (cap := 0) (ty := .int) rfl (wi hw 10 rfl) e8 (by decide) rfl (by decide) (by decide) (by decide) (by decide) (hb hby d1_13) ?_
  intro T9 h9 b9 X9 e9 E9 hb9 V9
  have g10 : n0 ≤ b9 := by rw [hb9]; exact (Nat.le_trans (Nat.le_trans Z0 E2.1) (Nat.le_of_eq (Wr.size W8).symm))
  have s11 : h0.size ≤ b9 := by rw [hb9]; exact ((K0.ext E2).wr W8 (Or.inl (List.mem_of_getElem? (i := 0) rfl))).1
  have V12 : ArF Z h9 b9 .int 0 (fun i => .int ((fun _ => (0 : Int32)) i)) := V9
  show Go p.tables e below s _ _ _ (T9.setTop (mkF m 15 #[.val (.ref a1), .val (.int (0 : Int32))] [(.ref b9), (.ref a1)]))
  have f13 := (((P2.ext E2).other W8 (Or.inr (slot_ne (Or.inl (wi hw 14 rfl)) (Or.inl (wi hw 12 rfl)) (by decide) (t := (.array .int)) (t' := (.array .int)) (by decide) (by decide)))).ext E9)
  have f14 := ((f7.wr W8).ext E9)
  refine g_putf X9 hx hby hZ hown (host := "") (Or.inl (wi hw 13 rfl)) Via.refl e9 f13 f14 (Or.inl (wi hw 14 rfl)) (wi hw 2 rfl) (ty := (.array .int)) (by decide) rfl rfl d1_15 (pc' := 18) rfl ?_
  intro T15 h15 X15 e15 W15 F15
  refine g_aloadN X15 hx hby d1_18 (pc' := 19) rfl rfl rfl ?_
  refine g_iconst X15 hx hby d1_19 (pc' := 20) rfl (z := (0 : Int32)) rfl ?_
  refine Go.newarr X15 hx hZ (n := 0) (cap := 0) (ty := .int) rfl (wi hw 10 rfl) e15 (by decide) rfl (by decide) (by decide) (by decide) (by decide) (hb hby d1_20) ?_
  intro T16 h16 b16 X16 e16 E16 hb16 V16
  have g17 : n0 ≤ b16 := by rw [hb16]; exact (Nat.le_trans (Nat.le_trans (Nat.le_trans (Nat.le_trans Z0 E2.1) (Nat.le_of_eq (Wr.size W8).symm)) E9.1) (Nat.le_of_eq (Wr.size W15).symm))
  have s18 : h0.size ≤ b16 := by rw [hb16]; exact ((((K0.ext E2).wr W8 (Or.inl (List.mem_of_getElem? (i := 0) rfl))).ext E9).wr W15 (Or.inl (List.mem_of_getElem? (i := 0) rfl))).1
  have V19 : ArF Z h16 b16 .int 0 (fun i => .int ((fun _ => (0 : Int32)) i)) := V16
  have z20 : n0 ≤ h16.size := (Nat.le_trans (Nat.le_trans (Nat.le_trans (Nat.le_trans (Nat.le_trans Z0 E2.1) (Nat.le_of_eq (Wr.size W8).symm)) E9.1) (Nat.le_of_eq (Wr.size W15).symm)) E16.1)
  show Go p.tables e below s _ _ _ (T16.setTop (mkF m 22 #[.val (.ref a1), .val (.int (0 : Int32))] [(.ref b16), (.ref a1)]))
  have f21 := (((((P3.ext E2).other W8 (Or.inr (slot_ne (Or.inl (wi hw 16 rfl)) (Or.inl (wi hw 12 rfl)) (by decide) (t := (.array .int)) (t' := (.array .int)) (by decide) (by decide)))).ext E9).other W15 (Or.inr (slot_ne (Or.inl (wi hw 16 rfl)) (Or.inl (wi hw 14 rfl)) (by decide) (t := (.array .int)) (t' := (.array .int)) (by decide) (by decide)))).ext E16)
  have f22 := ((f14.wr W15).ext E16)
  refine g_putf X16 hx hby hZ hown (host := "") (Or.inl (wi hw 15 rfl)) Via.refl e16 f21 f22 (Or.inl (wi hw 16 rfl)) (wi hw 2 rfl) (ty := (.array .int)) (by decide) rfl rfl d1_22 (pc' := 25) rfl ?_
  intro T23 h23 X23 e23 W23 F23
  refine g_aloadN X23 hx hby d1_25 (pc' := 26) rfl rfl rfl ?_
  refine g_iconst X23 hx hby d1_26 (pc' := 27) rfl (z := (0 : Int32)) rfl ?_
  refine Go.newarr X23 hx hZ (n := 0) (cap := 0) (ty := .int) rfl (wi hw 10 rfl) e23 (by decide) rfl (by decide) (by decide) (by decide) (by decide) (hb hby d1_27) ?_
  intro T24 h24 b24 X24 e24 E24 hb24 V24
  have g25 : n0 ≤ b24 := by rw [hb24]; exact (Nat.le_trans z20 (Nat.le_of_eq (Wr.size W23).symm))
  have s26 : h0.size ≤ b24 := by rw [hb24]; exact ((((((K0.ext E2).wr W8 (Or.inl (List.mem_of_getElem? (i := 0) rfl))).ext E9).wr W15 (Or.inl (List.mem_of_getElem? (i := 0) rfl))).ext E16).wr W23 (Or.inl (List.mem_of_getElem? (i := 0) rfl))).1
  have V27 : ArF Z h24 b24 .int 0 (fun i => .int ((fun _ => (0 : Int32)) i)) := V24
  have K28 : Keep h0 h24 [a1] := (((((((K0.ext E2).wr W8 (Or.inl (List.mem_of_getElem? (i := 0) rfl))).ext E9).wr W15 (Or.inl (List.mem_of_getElem? (i := 0) rfl))).ext E16).wr W23 (Or.inl (List.mem_of_getElem? (i := 0) rfl))).ext E24)
  show Go p.tables e below s _ _ _ (T24.setTop (mkF m 29 #[.val (.ref a1), .val (.int (0 : Int32))] [(.ref b24), (.ref a1)]))
  have f29 := (((((((P4.ext E2).other W8 (Or.inr (slot_ne (Or.inl (wi hw 18 rfl)) (Or.inl (wi hw 12 rfl)) (by decide) (t := (.array .int)) (t' := (.array .int)) (by decide) (by decide)))).ext E9).other W15 (Or.inr (slot_ne (Or.inl (wi hw 18 rfl)) (Or.inl (wi hw 14 rfl)) (by decide) (t := (.array .int)) (t' := (.array .int)) (by decide) (by decide)))).ext E16).other W23 (Or.inr (slot_ne (Or.inl (wi hw 18 rfl)) (Or.inl (wi hw 16 rfl)) (by decide) (t := (.array .int)) (t' := (.array .int)) (by decide) (by decide)))).ext E24)
  have f30 := ((f22.wr W23).ext E24)
  refine g_putf X24 hx hby hZ hown (host := "") (Or.inl (wi hw 17 rfl)) Via.refl e24 f29 f30 (Or.inl (wi hw 18 rfl)) (wi hw 2 rfl) (ty := (.array .int)) (by decide) rfl rfl d1_29 (pc' := 32) rfl ?_
  intro T31 h31 X31 e31 W31 F31
  refine g_aloadN X31 hx hby d1_32 (pc' := 33) rfl rfl rfl ?_
  refine g_iconst X31 hx hby d1_33 (pc' := 34) rfl (z := (0 : Int32)) rfl ?_
  refine Go.newarr X31 hx hZ (n := 0) (cap := 0) (ty := .double) rfl (wi hw 19 rfl) e31 (by decide) rfl (by decide) (by decide) (by decide) (by decide) (hb hby d1_34) ?_
  intro T32 h32 b32 X32 e32 E32 hb32 V32
  have g33 : n0 ≤ b32 := by rw [hb32]; exact (Nat.le_trans (Nat.le_trans (Nat.le_trans z20 (Nat.le_of_eq (Wr.size W23).symm)) E24.1) (Nat.le_of_eq (Wr.size W31).symm))
  have s34 : h0.size ≤ b32 := by rw [hb32]; exact (K28.wr W31 (Or.inl (List.mem_of_getElem? (i := 0) rfl))).1
  have V35 : ArF Z h32 b32 .double 0 (fun i => .double ((fun _ => (0 : UInt64)) i)) := V32
  show Go p.tables e below s _ _ _ (T32.setTop (mkF m 36 #[.val (.ref a1), .val (.int (0 : Int32))] [(.ref b32), (.ref a1)]))
  have f36 := (((((((((P5.ext E2).other W8 (Or.inr (slot_ne (Or.inl (wi hw 21 rfl)) (Or.inl (wi hw 12 rfl)) (by decide) (t := (.array .double)) (t' := (.array .int)) (by decide) (by decide)))).ext E9).other W15 (Or.inr (slot_ne (Or.inl (wi hw 21 rfl)) (Or.inl (wi hw 14 rfl)) (by decide) (t := (.array .double)) (t' := (.array .int)) (by decide) (by decide)))).ext E16).other W23 (Or.inr (slot_ne (Or.inl (wi hw 21 rfl)) (Or.inl (wi hw 16 rfl)) (by decide) (t := (.array .double)) (t' := (.array .int)) (by decide) (by decide)))).ext E24).other W31 (Or.inr (slot_ne (Or.inl (wi hw 21 rfl)) (Or.inl (wi hw 18 rfl)) (by decide) (t := (.array .double)) (t' := (.array .int)) (by decide) (by decide)))).ext E32)
  have f37 := ((f30.wr W31).ext E32)
  refine g_putf X32 hx hby hZ hown (host := "") (Or.inl (wi hw 20 rfl)) Via.refl e32 f36 f37 (Or.inl (wi hw 21 rfl)) (wi hw 2 rfl) (ty := (.array .double)) (by decide) rfl rfl d1_36 (pc' := 39) rfl ?_
  intro T38 h38 X38 e38 W38 F38
  have z39 : n0 ≤ h38.size := (Nat.le_trans (Nat.le_trans (Nat.le_trans (Nat.le_trans (Nat.le_trans z20 (Nat.le_of_eq (Wr.size W23).symm)) E24.1) (Nat.le_of_eq (Wr.size W31).symm)) E32.1) (Nat.le_of_eq (Wr.size W38).symm))
  refine g_aloadN X38 hx hby d1_39 (pc' := 40) rfl rfl rfl ?_
  refine g_iconst X38 hx hby d1_40 (pc' := 41) rfl (z := (0 : Int32)) rfl ?_
  refine Go.newarr X38 hx hZ (n := 0) (cap := 0) (ty := .int) rfl (wi hw 10 rfl) e38 (by decide) rfl (by decide) (by decide) (by decide) (by decide) (hb hby d1_41) ?_
  intro T40 h40 b40 X40 e40 E40 hb40 V40
  have g41 : n0 ≤ b40 := by rw [hb40]; exact z39
  have s42 : h0.size ≤ b40 := by rw [hb40]; exact (((K28.wr W31 (Or.inl (List.mem_of_getElem? (i := 0) rfl))).ext E32).wr W38 (Or.inl (List.mem_of_getElem? (i := 0) rfl))).1
  have V43 : ArF Z h40 b40 .int 0 (fun i => .int ((fun _ => (0 : Int32)) i)) := V40
  show Go p.tables e below s _ _ _ (T40.setTop (mkF m 43 #[.val (.ref a1), .val (.int (0 : Int32))] [(.ref b40), (.ref a1)]))
  have f44 := (((((((((((P6.ext E2).other W8 (Or.inr (slot_ne (Or.inl (wi hw 23 rfl)) (Or.inl (wi hw 12 rfl)) (by decide) (t := (.array .int)) (t' := (.array .int)) (by decide) (by decide)))).ext E9).other W15 (Or.inr (slot_ne (Or.inl (wi hw 23 rfl)) (Or.inl (wi hw 14 rfl)) (by decide) (t := (.array .int)) (t' := (.array .int)) (by decide) (by decide)))).ext E16).other W23 (Or.inr (slot_ne (Or.inl (wi hw 23 rfl)) (Or.inl (wi hw 16 rfl)) (by decide) (t := (.array .int)) (t' := (.array .int)) (by decide) (by decide)))).ext E24).other W31 (Or.inr (slot_ne (Or.inl (wi hw 23 rfl)) (Or.inl (wi hw 18 rfl)) (by decide) (t := (.array .int)) (t' := (.array .int)) (by decide) (by decide)))).ext E32).other W38 (Or.inr (slot_ne (Or.inl (wi hw 23 rfl)) (Or.inl (wi hw 21 rfl)) (by decide) (t := (.array .int)) (t' := (.array .double)) (by decide) (by decide)))).ext E40)
  have f45 := ((f37.wr W38).ext E40)
  refine g_putf X40 hx hby hZ hown (host := "") (Or.inl (wi hw 22 rfl)) Via.refl e40 f44 f45 (Or.inl (wi hw 23 rfl)) (wi hw 2 rfl) (ty := (.array .int)) (by decide) rfl rfl d1_43 (pc' := 46) rfl ?_
  intro T46 h46 X46 e46 W46 F46
  have N46 := (Fr.snoc X46 (Fr.snoc X38 (Fr.snoc X31 (Fr.snoc X23 (Fr.snoc X15 (Fr.snoc X8 N0 ge_a1) ge_a1) ge_a1) ge_a1) ge_a1) ge_a1)
  refine g_aloadN X46 hx hby d1_46 (pc' := 47) rfl rfl rfl ?_
  refine g_iconst X46 hx hby d1_47 (pc' := 48) rfl (z := (0 : Int32)) rfl ?_
  refine Go.newarr X46 hx hZ (n := 0) (cap := 0) (ty := .long) rfl (wi hw 24 rfl) e46 (by decide) rfl (by decide) (by decide) (by decide) (by decide) (hb hby d1_48) ?_
  intro T47 h47 b47 X47 e47 E47 hb47 V47
  have g48 : n0 ≤ b47 := by rw [hb47]; exact (Nat.le_trans (Nat.le_trans z39 E40.1) (Nat.le_of_eq (Wr.size W46).symm))
  have s49 : h0.size ≤ b47 := by rw [hb47]; exact (((((K28.wr W31 (Or.inl (List.mem_of_getElem? (i := 0) rfl))).ext E32).wr W38 (Or.inl (List.mem_of_getElem? (i := 0) rfl))).ext E40).wr W46 (Or.inl (List.mem_of_getElem? (i := 0) rfl))).1
  have V50 : ArF Z h47 b47 .long 0 (fun i => .long ((fun _ => (0 : Int64)) i)) := V47
  show Go p.tables e below s _ _ _ (T47.setTop (mkF m 50 #[.val (.ref a1), .val (.int (0 : Int32))] [(.ref b47), (.ref a1)]))
  have f51 := (((((((((((((P7.ext E2).other W8 (Or.inr (slot_ne (Or.inl (wi hw 26 rfl)) (Or.inl (wi hw 12 rfl)) (by decide) (t := (.array .long)) (t' := (.array .int)) (by decide) (by decide)))).ext E9).other W15 (Or.inr (slot_ne (Or.inl (wi hw 26 rfl)) (Or.inl (wi hw 14 rfl)) (by decide) (t := (.array .long)) (t' := (.array .int)) (by decide) (by decide)))).ext E16).other W23 (Or.inr (slot_ne (Or.inl (wi hw 26 rfl)) (Or.inl (wi hw 16 rfl)) (by decide) (t := (.array .long)) (t' := (.array .int)) (by decide) (by decide)))).ext E24).other W31 (Or.inr (slot_ne (Or.inl (wi hw 26 rfl)) (Or.inl (wi hw 18 rfl)) (by decide) (t := (.array .long)) (t' := (.array .int)) (by decide) (by decide)))).ext E32).other W38 (Or.inr (slot_ne (Or.inl (wi hw 26 rfl)) (Or.inl (wi hw 21 rfl)) (by decide) (t := (.array .long)) (t' := (.array .double)) (by decide) (by decide)))).ext E40).other W46 (Or.inr (slot_ne (Or.inl (wi hw 26 rfl)) (Or.inl (wi hw 23 rfl)) (by decide) (t := (.array .long)) (t' := (.array .int)) (by decide) (by decide)))).ext E47)
  have f52 := ((f45.wr W46).ext E47)
  refine g_putf X47 hx hby hZ hown (host := "") (Or.inl (wi hw 25 rfl)) Via.refl e47 f51 f52 (Or.inl (wi hw 26 rfl)) (wi hw 2 rfl) (ty := (.array .long)) (by decide) rfl rfl d1_50 (pc' := 53) rfl ?_
  intro T53 h53 X53 e53 W53 F53
  have K54 : Keep h0 h53 [a1] := (((((((K28.wr W31 (Or.inl (List.mem_of_getElem? (i := 0) rfl))).ext E32).wr W38 (Or.inl (List.mem_of_getElem? (i := 0) rfl))).ext E40).wr W46 (Or.inl (List.mem_of_getElem? (i := 0) rfl))).ext E47).wr W53 (Or.inl (List.mem_of_getElem? (i := 0) rfl)))
  refine g_aloadN X53 hx hby d1_53 (pc' := 54) rfl rfl rfl ?_
  refine g_iloadN X53 hx hby d1_54 (pc' := 55) rfl rfl ?_
  have f55 := ((((((((((((((P8.ext E2).other W8 (Or.inr (slot_ne (Or.inr (wi hw 28 rfl)) (Or.inl (wi hw 12 rfl)) (by decide) (t := .boolean) (t' := (.array .int)) (by decide) (by decide)))).ext E9).other W15 (Or.inr (slot_ne (Or.inr (wi hw 28 rfl)) (Or.inl (wi hw 14 rfl)) (by decide) (t := .boolean) (t' := (.array .int)) (by decide) (by decide)))).ext E16).other W23 (Or.inr (slot_ne (Or.inr (wi hw 28 rfl)) (Or.inl (wi hw 16 rfl)) (by decide) (t := .boolean) (t' := (.array .int)) (by decide) (by decide)))).ext E24).other W31 (Or.inr (slot_ne (Or.inr (wi hw 28 rfl)) (Or.inl (wi hw 18 rfl)) (by decide) (t := .boolean) (t' := (.array .int)) (by decide) (by decide)))).ext E32).other W38 (Or.inr (slot_ne (Or.inr (wi hw 28 rfl)) (Or.inl (wi hw 21 rfl)) (by decide) (t := .boolean) (t' := (.array .double)) (by decide) (by decide)))).ext E40).other W46 (Or.inr (slot_ne (Or.inr (wi hw 28 rfl)) (Or.inl (wi hw 23 rfl)) (by decide) (t := .boolean) (t' := (.array .int)) (by decide) (by decide)))).ext E47).other W53 (Or.inr (slot_ne (Or.inr (wi hw 28 rfl)) (Or.inl (wi hw 26 rfl)) (by decide) (t := .boolean) (t' := (.array .long)) (by decide) (by decide))))
  have f56 := f52.wr W53
  obtain ⟨T57, h57, X57, e57, W57, st57⟩ := putFN X53 hx hZ hown (wi hw 27 rfl) Via.refl e53 f55 f56 (Or.inr ⟨(wi hw 28 rfl), rfl, hnm⟩) (wi hw 2 rfl) (ty := .boolean) (v' := (.int (0 : Int32))) (by decide) rfl rfl (g := (mkF m 55 #[.val (.ref a1), .val (.int (0 : Int32))] [(.int (0 : Int32)), (.ref a1)])) rfl rfl (hb hby d1_55)
  refine Go.of st57 ?_
  have F57 := f55.same W57
  have z58 : n0 ≤ h57.size := (Nat.le_trans (Nat.le_trans (Nat.le_trans (Nat.le_trans (Nat.le_trans z39 E40.1) (Nat.le_of_eq (Wr.size W46).symm)) E47.1) (Nat.le_of_eq (Wr.size W53).symm)) (Nat.le_of_eq (Wr.size W57).symm))
  show Go p.tables e below s _ _ _ (T57.setTop (mkF m 58 #[.val (.ref a1), .val (.int (0 : Int32))] []))
  refine Go.retV X57 hx hlk hret (hb hby d1_58) rfl (by decide) (by decide) ?_
  have f59 := (((((((((((((F8.ext E9).other W15 (Or.inr (slot_ne (Or.inl (wi hw 12 rfl)) (Or.inl (wi hw 14 rfl)) (by decide) (t := (.array .int)) (t' := (.array .int)) (by decide) (by decide)))).ext E16).other W23 (Or.inr (slot_ne (Or.inl (wi hw 12 rfl)) (Or.inl (wi hw 16 rfl)) (by decide) (t := (.array .int)) (t' := (.array .int)) (by decide) (by decide)))).ext E24).other W31 (Or.inr (slot_ne (Or.inl (wi hw 12 rfl)) (Or.inl (wi hw 18 rfl)) (by decide) (t := (.array .int)) (t' := (.array .int)) (by decide) (by decide)))).ext E32).other W38 (Or.inr (slot_ne (Or.inl (wi hw 12 rfl)) (Or.inl (wi hw 21 rfl)) (by decide) (t := (.array .int)) (t' := (.array .double)) (by decide) (by decide)))).ext E40).other W46 (Or.inr (slot_ne (Or.inl (wi hw 12 rfl)) (Or.inl (wi hw 23 rfl)) (by decide) (t := (.array .int)) (t' := (.array .int)) (by decide) (by decide)))).ext E47).other W53 (Or.inr (slot_ne (Or.inl (wi hw 12 rfl)) (Or.inl (wi hw 26 rfl)) (by decide) (t := (.array .int)) (t' := (.array .long)) (by decide) (by decide)))).other W57 (Or.inr (slot_ne (Or.inl (wi hw 12 rfl)) (Or.inr (wi hw 28 rfl)) (by decide) (t := (.array .int)) (t' := .boolean) (by decide) (by decide))))
  have f60 := (((((((((((F15.ext E16).other W23 (Or.inr (slot_ne (Or.inl (wi hw 14 rfl)) (Or.inl (wi hw 16 rfl)) (by decide) (t := (.array .int)) (t' := (.array .int)) (by decide) (by decide)))).ext E24).other W31 (Or.inr (slot_ne (Or.inl (wi hw 14 rfl)) (Or.inl (wi hw 18 rfl)) (by decide) (t := (.array .int)) (t' := (.array .int)) (by decide) (by decide)))).ext E32).other W38 (Or.inr (slot_ne (Or.inl (wi hw 14 rfl)) (Or.inl (wi hw 21 rfl)) (by decide) (t := (.array .int)) (t' := (.array .double)) (by decide) (by decide)))).ext E40).other W46 (Or.inr (slot_ne (Or.inl (wi hw 14 rfl)) (Or.inl (wi hw 23 rfl)) (by decide) (t := (.array .int)) (t' := (.array .int)) (by decide) (by decide)))).ext E47).other W53 (Or.inr (slot_ne (Or.inl (wi hw 14 rfl)) (Or.inl (wi hw 26 rfl)) (by decide) (t := (.array .int)) (t' := (.array .long)) (by decide) (by decide)))).other W57 (Or.inr (slot_ne (Or.inl (wi hw 14 rfl)) (Or.inr (wi hw 28 rfl)) (by decide) (t := (.array .int)) (t' := .boolean) (by decide) (by decide))))
  have f61 := (((((((((F23.ext E24).other W31 (Or.inr (slot_ne (Or.inl (wi hw 16 rfl)) (Or.inl (wi hw 18 rfl)) (by decide) (t := (.array .int)) (t' := (.array .int)) (by decide) (by decide)))).ext E32).other W38 (Or.inr (slot_ne (Or.inl (wi hw 16 rfl)) (Or.inl (wi hw 21 rfl)) (by decide) (t := (.array .int)) (t' := (.array .double)) (by decide) (by decide)))).ext E40).other W46 (Or.inr (slot_ne (Or.inl (wi hw 16 rfl)) (Or.inl (wi hw 23 rfl)) (by decide) (t := (.array .int)) (t' := (.array .int)) (by decide) (by decide)))).ext E47).other W53 (Or.inr (slot_ne (Or.inl (wi hw 16 rfl)) (Or.inl (wi hw 26 rfl)) (by decide) (t := (.array .int)) (t' := (.array .long)) (by decide) (by decide)))).other W57 (Or.inr (slot_ne (Or.inl (wi hw 16 rfl)) (Or.inr (wi hw 28 rfl)) (by decide) (t := (.array .int)) (t' := .boolean) (by decide) (by decide))))
  have f62 := (((((((F31.ext E32).other W38 (Or.inr (slot_ne (Or.inl (wi hw 18 rfl)) (Or.inl (wi hw 21 rfl)) (by decide) (t := (.array .int)) (t' := (.array .double)) (by decide) (by decide)))).ext E40).other W46 (Or.inr (slot_ne (Or.inl (wi hw 18 rfl)) (Or.inl (wi hw 23 rfl)) (by decide) (t := (.array .int)) (t' := (.array .int)) (by decide) (by decide)))).ext E47).other W53 (Or.inr (slot_ne (Or.inl (wi hw 18 rfl)) (Or.inl (wi hw 26 rfl)) (by decide) (t := (.array .int)) (t' := (.array .long)) (by decide) (by decide)))).other W57 (Or.inr (slot_ne (Or.inl (wi hw 18 rfl)) (Or.inr (wi hw 28 rfl)) (by decide) (t := (.array .int)) (t' := .boolean) (by decide) (by decide))))
  have f63 := (((((F38.ext E40).other W46 (Or.inr (slot_ne (Or.inl (wi hw 21 rfl)) (Or.inl (wi hw 23 rfl)) (by decide) (t := (.array .double)) (t' := (.array .int)) (by decide) (by decide)))).ext E47).other W53 (Or.inr (slot_ne (Or.inl (wi hw 21 rfl)) (Or.inl (wi hw 26 rfl)) (by decide) (t := (.array .double)) (t' := (.array .long)) (by decide) (by decide)))).other W57 (Or.inr (slot_ne (Or.inl (wi hw 21 rfl)) (Or.inr (wi hw 28 rfl)) (by decide) (t := (.array .double)) (t' := .boolean) (by decide) (by decide))))
  have f64 := (((F46.ext E47).other W53 (Or.inr (slot_ne (Or.inl (wi hw 23 rfl)) (Or.inl (wi hw 26 rfl)) (by decide) (t := (.array .int)) (t' := (.array .long)) (by decide) (by decide)))).other W57 (Or.inr (slot_ne (Or.inl (wi hw 23 rfl)) (Or.inr (wi hw 28 rfl)) (by decide) (t := (.array .int)) (t' := .boolean) (by decide) (by decide))))
  have f65 := (F53.other W57 (Or.inr (slot_ne (Or.inl (wi hw 26 rfl)) (Or.inr (wi hw 28 rfl)) (by decide) (t := (.array .long)) (t' := .boolean) (by decide) (by decide))))
  rw [e57]
  have ne66 : a1 ≠ b2 := Nat.ne_of_lt (by rw [hb2]; exact P11.lt)
  have ne67 : b2 ≠ b9 := Nat.ne_of_lt (by rw [hb9]; exact (V5.other W8 (Ne.symm ne66)).lt)
  have ne68 : b2 ≠ b16 := Nat.ne_of_lt (by rw [hb16]; exact (((V5.other W8 (Ne.symm ne66)).ext E9).other W15 (Ne.symm ne66)).lt)
  have ne69 : b2 ≠ b24 := Nat.ne_of_lt (by rw [hb24]; exact (((((V5.other W8 (Ne.symm ne66)).ext E9).other W15 (Ne.symm ne66)).ext E16).other W23 (Ne.symm ne66)).lt)
  have ne70 : b2 ≠ b32 := Nat.ne_of_lt (by rw [hb32]; exact (((((((V5.other W8 (Ne.symm ne66)).ext E9).other W15 (Ne.symm ne66)).ext E16).other W23 (Ne.symm ne66)).ext E24).other W31 (Ne.symm ne66)).lt)
  have ne71 : b2 ≠ b40 := Nat.ne_of_lt (by rw [hb40]; exact (((((((((V5.other W8 (Ne.symm ne66)).ext E9).other W15 (Ne.symm ne66)).ext E16).other W23 (Ne.symm ne66)).ext E24).other W31 (Ne.symm ne66)).ext E32).other W38 (Ne.symm ne66)).lt)
  have ne72 : b2 ≠ b47 := Nat.ne_of_lt (by rw [hb47]; exact (((((((((((V5.other W8 (Ne.symm ne66)).ext E9).other W15 (Ne.symm ne66)).ext E16).other W23 (Ne.symm ne66)).ext E24).other W31 (Ne.symm ne66)).ext E32).other W38 (Ne.symm ne66)).ext E40).other W46 (Ne.symm ne66)).lt)
  have ne73 : a1 ≠ b9 := Nat.ne_of_lt (by rw [hb9]; exact F8.lt)
  have ne74 : b9 ≠ b16 := Nat.ne_of_lt (by rw [hb16]; exact (V12.other W15 (Ne.symm ne73)).lt)
  have ne75 : b9 ≠ b24 := Nat.ne_of_lt (by rw [hb24]; exact (((V12.other W15 (Ne.symm ne73)).ext E16).other W23 (Ne.symm ne73)).lt)
  have ne76 : b9 ≠ b32 := Nat.ne_of_lt (by rw [hb32]; exact (((((V12.other W15 (Ne.symm ne73)).ext E16).other W23 (Ne.symm ne73)).ext E24).other W31 (Ne.symm ne73)).lt)
  have ne77 : b9 ≠ b40 := Nat.ne_of_lt (by rw [hb40]; exact (((((((V12.other W15 (Ne.symm ne73)).ext E16).other W23 (Ne.symm ne73)).ext E24).other W31 (Ne.symm ne73)).ext E32).other W38 (Ne.symm ne73)).lt)
  have ne78 : b9 ≠ b47 := Nat.ne_of_lt (by rw [hb47]; exact (((((((((V12.other W15 (Ne.symm ne73)).ext E16).other W23 (Ne.symm ne73)).ext E24).other W31 (Ne.symm ne73)).ext E32).other W38 (Ne.symm ne73)).ext E40).other W46 (Ne.symm ne73)).lt)
  have ne79 : a1 ≠ b16 := Nat.ne_of_lt (by rw [hb16]; exact F15.lt)
  have ne80 : b16 ≠ b24 := Nat.ne_of_lt (by rw [hb24]; exact (V19.other W23 (Ne.symm ne79)).lt)
  have ne81 : b16 ≠ b32 := Nat.ne_of_lt (by rw [hb32]; exact (((V19.other W23 (Ne.symm ne79)).ext E24).other W31 (Ne.symm ne79)).lt)
  have ne82 : b16 ≠ b40 := Nat.ne_of_lt (by rw [hb40]; exact (((((V19.other W23 (Ne.symm ne79)).ext E24).other W31 (Ne.symm ne79)).ext E32).other W38 (Ne.symm ne79)).lt)
  have ne83 : b16 ≠ b47 := Nat.ne_of_lt (by rw [hb47]; exact (((((((V19.other W23 (Ne.symm ne79)).ext E24).other W31 (Ne.symm ne79)).ext E32).other W38 (Ne.symm ne79)).ext E40).other W46 (Ne.symm ne79)).lt)
  have ne84 : a1 ≠ b24 := Nat.ne_of_lt (by rw [hb24]; exact F23.lt)
  have ne85 : b24 ≠ b32 := Nat.ne_of_lt (by rw [hb32]; exact (V27.other W31 (Ne.symm ne84)).lt)
  have ne86 : b24 ≠ b40 := Nat.ne_of_lt (by rw [hb40]; exact (((V27.other W31 (Ne.symm ne84)).ext E32).other W38 (Ne.symm ne84)).lt)
  have ne87 : b24 ≠ b47 := Nat.ne_of_lt (by rw [hb47]; exact (((((V27.other W31 (Ne.symm ne84)).ext E32).other W38 (Ne.symm ne84)).ext E40).other W46 (Ne.symm ne84)).lt)
  have ne88 : a1 ≠ b32 := Nat.ne_of_lt (by rw [hb32]; exact F31.lt)
  have ne89 : b32 ≠ b40 := Nat.ne_of_lt (by rw [hb40]; exact (V35.other W38 (Ne.symm ne88)).lt)
  have ne90 : b32 ≠ b47 := Nat.ne_of_lt (by rw [hb47]; exact (((V35.other W38 (Ne.symm ne88)).ext E40).other W46 (Ne.symm ne88)).lt)
  have ne91 : a1 ≠ b40 := Nat.ne_of_lt (by rw [hb40]; exact F38.lt)
  have ne92 : b40 ≠ b47 := Nat.ne_of_lt (by rw [hb47]; exact (V43.other W46 (Ne.symm ne91)).lt)
  have f93 := (((((((((((((((P9.ext E2).other W8 (Or.inr (slot_ne (Or.inl (wi hw 39 rfl)) (Or.inl (wi hw 12 rfl)) (by decide) (t := .int) (t' := (.array .int)) (by decide) (by decide)))).ext E9).other W15 (Or.inr (slot_ne (Or.inl (wi hw 39 rfl)) (Or.inl (wi hw 14 rfl)) (by decide) (t := .int) (t' := (.array .int)) (by decide) (by decide)))).ext E16).other W23 (Or.inr (slot_ne (Or.inl (wi hw 39 rfl)) (Or.inl (wi hw 16 rfl)) (by decide) (t := .int) (t' := (.array .int)) (by decide) (by decide)))).ext E24).other W31 (Or.inr (slot_ne (Or.inl (wi hw 39 rfl)) (Or.inl (wi hw 18 rfl)) (by decide) (t := .int) (t' := (.array .int)) (by decide) (by decide)))).ext E32).other W38 (Or.inr (slot_ne (Or.inl (wi hw 39 rfl)) (Or.inl (wi hw 21 rfl)) (by decide) (t := .int) (t' := (.array .double)) (by decide) (by decide)))).ext E40).other W46 (Or.inr (slot_ne (Or.inl (wi hw 39 rfl)) (Or.inl (wi hw 23 rfl)) (by decide) (t := .int) (t' := (.array .int)) (by decide) (by decide)))).ext E47).other W53 (Or.inr (slot_ne (Or.inl (wi hw 39 rfl)) (Or.inl (wi hw 26 rfl)) (by decide) (t := .int) (t' := (.array .long)) (by decide) (by decide)))).other W57 (Or.inr (slot_ne (Or.inl (wi hw 39 rfl)) (Or.inr (wi hw 28 rfl)) (by decide) (t := .int) (t' := .boolean) (by decide) (by decide))))
  have f94 := (((((((((((((((P10.ext E2).other W8 (Or.inr (slot_ne (Or.inl (wi hw 79 rfl)) (Or.inl (wi hw 12 rfl)) (by decide) (t := .int) (t' := (.array .int)) (by decide) (by decide)))).ext E9).other W15 (Or.inr (slot_ne (Or.inl (wi hw 79 rfl)) (Or.inl (wi hw 14 rfl)) (by decide) (t := .int) (t' := (.array .int)) (by decide) (by decide)))).ext E16).other W23 (Or.inr (slot_ne (Or.inl (wi hw 79 rfl)) (Or.inl (wi hw 16 rfl)) (by decide) (t := .int) (t' := (.array .int)) (by decide) (by decide)))).ext E24).other W31 (Or.inr (slot_ne (Or.inl (wi hw 79 rfl)) (Or.inl (wi hw 18 rfl)) (by decide) (t := .int) (t' := (.array .int)) (by decide) (by decide)))).ext E32).other W38 (Or.inr (slot_ne (Or.inl (wi hw 79 rfl)) (Or.inl (wi hw 21 rfl)) (by decide) (t := .int) (t' := (.array .double)) (by decide) (by decide)))).ext E40).other W46 (Or.inr (slot_ne (Or.inl (wi hw 79 rfl)) (Or.inl (wi hw 23 rfl)) (by decide) (t := .int) (t' := (.array .int)) (by decide) (by decide)))).ext E47).other W53 (Or.inr (slot_ne (Or.inl (wi hw 79 rfl)) (Or.inl (wi hw 26 rfl)) (by decide) (t := .int) (t' := (.array .long)) (by decide) (by decide)))).other W57 (Or.inr (slot_ne (Or.inl (wi hw 79 rfl)) (Or.inr (wi hw 28 rfl)) (by decide) (t := .int) (t' := .boolean) (by decide) (by decide))))
  have f95 := (((((((((((((((P11.ext E2).other W8 (Or.inr (slot_ne (Or.inl (wi hw 81 rfl)) (Or.inl (wi hw 12 rfl)) (by decide) (t := .long) (t' := (.array .int)) (by decide) (by decide)))).ext E9).other W15 (Or.inr (slot_ne (Or.inl (wi hw 81 rfl)) (Or.inl (wi hw 14 rfl)) (by decide) (t := .long) (t' := (.array .int)) (by decide) (by decide)))).ext E16).other W23 (Or.inr (slot_ne (Or.inl (wi hw 81 rfl)) (Or.inl (wi hw 16 rfl)) (by decide) (t := .long) (t' := (.array .int)) (by decide) (by decide)))).ext E24).other W31 (Or.inr (slot_ne (Or.inl (wi hw 81 rfl)) (Or.inl (wi hw 18 rfl)) (by decide) (t := .long) (t' := (.array .int)) (by decide) (by decide)))).ext E32).other W38 (Or.inr (slot_ne (Or.inl (wi hw 81 rfl)) (Or.inl (wi hw 21 rfl)) (by decide) (t := .long) (t' := (.array .double)) (by decide) (by decide)))).ext E40).other W46 (Or.inr (slot_ne (Or.inl (wi hw 81 rfl)) (Or.inl (wi hw 23 rfl)) (by decide) (t := .long) (t' := (.array .int)) (by decide) (by decide)))).ext E47).other W53 (Or.inr (slot_ne (Or.inl (wi hw 81 rfl)) (Or.inl (wi hw 26 rfl)) (by decide) (t := .long) (t' := (.array .long)) (by decide) (by decide)))).other W57 (Or.inr (slot_ne (Or.inl (wi hw 81 rfl)) (Or.inr (wi hw 28 rfl)) (by decide) (t := .long) (t' := .boolean) (by decide) (by decide))))
  have f96 := ((((((((((((((V5.other W8 (Ne.symm ne66)).ext E9).other W15 (Ne.symm ne66)).ext E16).other W23 (Ne.symm ne66)).ext E24).other W31 (Ne.symm ne66)).ext E32).other W38 (Ne.symm ne66)).ext E40).other W46 (Ne.symm ne66)).ext E47).other W53 (Ne.symm ne66)).other W57 (Ne.symm ne66))
  have f97 := ((((((((((((V12.other W15 (Ne.symm ne73)).ext E16).other W23 (Ne.symm ne73)).ext E24).other W31 (Ne.symm ne73)).ext E32).other W38 (Ne.symm ne73)).ext E40).other W46 (Ne.symm ne73)).ext E47).other W53 (Ne.symm ne73)).other W57 (Ne.symm ne73))
  have f98 := ((((((((((V19.other W23 (Ne.symm ne79)).ext E24).other W31 (Ne.symm ne79)).ext E32).other W38 (Ne.symm ne79)).ext E40).other W46 (Ne.symm ne79)).ext E47).other W53 (Ne.symm ne79)).other W57 (Ne.symm ne79))
  have f99 := ((((((((V27.other W31 (Ne.symm ne84)).ext E32).other W38 (Ne.symm ne84)).ext E40).other W46 (Ne.symm ne84)).ext E47).other W53 (Ne.symm ne84)).other W57 (Ne.symm ne84))
  have f100 := ((((((V35.other W38 (Ne.symm ne88)).ext E40).other W46 (Ne.symm ne88)).ext E47).other W53 (Ne.symm ne88)).other W57 (Ne.symm ne88))
  have f101 := ((((V43.other W46 (Ne.symm ne91)).ext E47).other W53 (Ne.symm ne91)).other W57 (Ne.symm ne91))
  have ne102 : a1 ≠ b47 := Nat.ne_of_lt (by rw [hb47]; exact F46.lt)
  have f103 := ((V50.other W53 (Ne.symm ne102)).other W57 (Ne.symm ne102))
  exact ⟨b2, b9, b16, b24, b32, b40, b47, rfl, (Fr.snoc X57 (Fr.snoc X53 N46 ge_a1) ge_a1), (K54.wr W57 (Or.inl (List.mem_of_getElem? (i := 0) rfl))), g3, s4, g10, s11, g17, s18, g25, s26, g33, s34, g41, s42, g48, s49, ne67, ne68, ne69, ne70, ne71, ne72, ne74, ne75, ne76, ne77, ne78, ne80, ne81, ne82, ne83, ne85, ne86, ne87, ne89, ne90, ne92, f59, f60, f61, f62, f63, f64, f65, F57, f93, f94, f95, f96, f97, f98, f99, f100, f101, f103⟩
theorem ef_rm_init1 (m : MethodId) (x0 : Addr) : entryFrame m #[(.ref x0), (.int (1 : Int32))] 2 = mkF m 0 #[.val (.ref x0), .val (.int (1 : Int32))] [] := by first | (simp [entryFrame, mkF, argsToLocals, Value.category]; done) | rfl
set_option maxRecDepth 65536 in
set_option maxHeartbeats 40000000 in
theorem rm_init1 (l : Launch) (Z : State) (a0 : Array Value) (hw : ∀ d ∈ tables_1, d.before a0 Z = true) (a1 : Addr) (h0 : Heap) (n0 : Nat) (Z0 : n0 ≤ h0.size) (P0 : Exa Z h0 a1 "com/example/edgewise/edgewise/EdgeSlots") (P1 : Fld Z h0 a1 "com/example/edgewise/edgewise/EdgeSlots" "sources" "[I" .null) (P2 : Fld Z h0 a1 "com/example/edgewise/edgewise/EdgeSlots" "targets" "[I" .null) (P3 : Fld Z h0 a1 "com/example/edgewise/edgewise/EdgeSlots" "sourcePositions" "[I" .null) (P4 : Fld Z h0 a1 "com/example/edgewise/edgewise/EdgeSlots" "targetPositions" "[I" .null) (P5 : Fld Z h0 a1 "com/example/edgewise/edgewise/EdgeSlots" "weights" "[D" .null) (P6 : Fld Z h0 a1 "com/example/edgewise/edgewise/EdgeSlots" "keys" "[I" .null) (P7 : Fld Z h0 a1 "com/example/edgewise/edgewise/EdgeSlots" "keptNumbers" "[J" .null) (P8 : Fld Z h0 a1 "com/example/edgewise/edgewise/EdgeSlots" "keyed" "Z" (.int (0 : Int32))) (P9 : Fld Z h0 a1 "com/example/edgewise/edgewise/EdgeSlots" "bound" "I" (.int (0 : Int32))) (P10 : Fld Z h0 a1 "com/example/edgewise/edgewise/EdgeSlots" "count" "I" (.int (0 : Int32))) (P11 : Fld Z h0 a1 "com/example/edgewise/edgewise/EdgeSlots" "nextNumber" "J" (.long (0 : Int64))) (ge_a1 : n0 ≤ a1) :
    Con l Z (⟨"com/example/edgewise/edgewise/EdgeSlots", "<init>", "(Z)V"⟩ : MethodName) prog_12_method_1_code 2 none ({ frames := 1, cells := 7, slots := 0, locals := 12 } : Room) #[(.ref a1), (.int (1 : Int32))] h0 (fun v h L => ∃ (b1 : Addr) (b2 : Addr) (b3 : Addr) (b4 : Addr) (b5 : Addr) (b6 : Addr) (b7 : Addr), v = none ∧ Fr n0 L ∧ Keep h0 h [a1] ∧ n0 ≤ b1 ∧ h0.size ≤ b1 ∧ n0 ≤ b2 ∧ h0.size ≤ b2 ∧ n0 ≤ b3 ∧ h0.size ≤ b3 ∧ n0 ≤ b4 ∧ h0.size ≤ b4 ∧ n0 ≤ b5 ∧ h0.size ≤ b5 ∧ n0 ≤ b6 ∧ h0.size ≤ b6 ∧ n0 ≤ b7 ∧ h0.size ≤ b7 ∧ b1 ≠ b2 ∧ b1 ≠ b3 ∧ b1 ≠ b4 ∧ b1 ≠ b5 ∧ b1 ≠ b6 ∧ b1 ≠ b7 ∧ b2 ≠ b3 ∧ b2 ≠ b4 ∧ b2 ≠ b5 ∧ b2 ≠ b6 ∧ b2 ≠ b7 ∧ b3 ≠ b4 ∧ b3 ≠ b5 ∧ b3 ≠ b6 ∧ b3 ≠ b7 ∧ b4 ≠ b5 ∧ b4 ≠ b6 ∧ b4 ≠ b7 ∧ b5 ≠ b6 ∧ b5 ≠ b7 ∧ b6 ≠ b7 ∧ Fld Z h a1 "com/example/edgewise/edgewise/EdgeSlots" "sources" "[I" (.ref b1) ∧ Fld Z h a1 "com/example/edgewise/edgewise/EdgeSlots" "targets" "[I" (.ref b2) ∧ Fld Z h a1 "com/example/edgewise/edgewise/EdgeSlots" "sourcePositions" "[I" (.ref b3) ∧ Fld Z h a1 "com/example/edgewise/edgewise/EdgeSlots" "targetPositions" "[I" (.ref b4) ∧ Fld Z h a1 "com/example/edgewise/edgewise/EdgeSlots" "weights" "[D" (.ref b5) ∧ Fld Z h a1 "com/example/edgewise/edgewise/EdgeSlots" "keys" "[I" (.ref b6) ∧ Fld Z h a1 "com/example/edgewise/edgewise/EdgeSlots" "keptNumbers" "[J" (.ref b7) ∧ Fld Z h a1 "com/example/edgewise/edgewise/EdgeSlots" "keyed" "Z" (.int (1 : Int32)) ∧ Fld Z h a1 "com/example/edgewise/edgewise/EdgeSlots" "bound" "I" (.int (0 : Int32)) ∧ Fld Z h a1 "com/example/edgewise/edgewise/EdgeSlots" "count" "I" (.int (0 : Int32)) ∧ Fld Z h a1 "com/example/edgewise/edgewise/EdgeSlots" "nextNumber" "J" (.long (0 : Int64)) ∧ ArF Z h b1 .int 0 (fun i => .int ((fun _ => (0 : Int32)) i)) ∧ ArF Z h b2 .int 0 (fun i => .int ((fun _ => (0 : Int32)) i)) ∧ ArF Z h b3 .int 0 (fun i => .int ((fun _ => (0 : Int32)) i)) ∧ ArF Z h b4 .int 0 (fun i => .int ((fun _ => (0 : Int32)) i)) ∧ ArF Z h b5 .double 0 (fun i => .double ((fun _ => (0 : UInt64)) i)) ∧ ArF Z h b6 .int 0 (fun i => .int ((fun _ => (0 : Int32)) i)) ∧ ArF Z h b7 .long 0 (fun i => .long ((fun _ => (0 : Int64)) i))) := by
  refine meet (y := (⟨"com/example/edgewise/edgewise/EdgeSlots", "<init>", "(Z)V"⟩ : MethodName)) (Q := fun v h L => ∃ (b1 : Addr) (b2 : Addr) (b3 : Addr) (b4 : Addr) (b5 : Addr) (b6 : Addr) (b7 : Addr), v = none ∧ Fr n0 L ∧ Keep h0 h [a1] ∧ n0 ≤ b1 ∧ h0.size ≤ b1 ∧ n0 ≤ b2 ∧ h0.size ≤ b2 ∧ n0 ≤ b3 ∧ h0.size ≤ b3 ∧ n0 ≤ b4 ∧ h0.size ≤ b4 ∧ n0 ≤ b5 ∧ h0.size ≤ b5 ∧ n0 ≤ b6 ∧ h0.size ≤ b6 ∧ n0 ≤ b7 ∧ h0.size ≤ b7 ∧ b1 ≠ b2 ∧ b1 ≠ b3 ∧ b1 ≠ b4 ∧ b1 ≠ b5 ∧ b1 ≠ b6 ∧ b1 ≠ b7 ∧ b2 ≠ b3 ∧ b2 ≠ b4 ∧ b2 ≠ b5 ∧ b2 ≠ b6 ∧ b2 ≠ b7 ∧ b3 ≠ b4 ∧ b3 ≠ b5 ∧ b3 ≠ b6 ∧ b3 ≠ b7 ∧ b4 ≠ b5 ∧ b4 ≠ b6 ∧ b4 ≠ b7 ∧ b5 ≠ b6 ∧ b5 ≠ b7 ∧ b6 ≠ b7 ∧ Fld Z h a1 "com/example/edgewise/edgewise/EdgeSlots" "sources" "[I" (.ref b1) ∧ Fld Z h a1 "com/example/edgewise/edgewise/EdgeSlots" "targets" "[I" (.ref b2) ∧ Fld Z h a1 "com/example/edgewise/edgewise/EdgeSlots" "sourcePositions" "[I" (.ref b3) ∧ Fld Z h a1 "com/example/edgewise/edgewise/EdgeSlots" "targetPositions" "[I" (.ref b4) ∧ Fld Z h a1 "com/example/edgewise/edgewise/EdgeSlots" "weights" "[D" (.ref b5) ∧ Fld Z h a1 "com/example/edgewise/edgewise/EdgeSlots" "keys" "[I" (.ref b6) ∧ Fld Z h a1 "com/example/edgewise/edgewise/EdgeSlots" "keptNumbers" "[J" (.ref b7) ∧ Fld Z h a1 "com/example/edgewise/edgewise/EdgeSlots" "keyed" "Z" (.int (1 : Int32)) ∧ Fld Z h a1 "com/example/edgewise/edgewise/EdgeSlots" "bound" "I" (.int (0 : Int32)) ∧ Fld Z h a1 "com/example/edgewise/edgewise/EdgeSlots" "count" "I" (.int (0 : Int32)) ∧ Fld Z h a1 "com/example/edgewise/edgewise/EdgeSlots" "nextNumber" "J" (.long (0 : Int64)) ∧ ArF Z h b1 .int 0 (fun i => .int ((fun _ => (0 : Int32)) i)) ∧ ArF Z h b2 .int 0 (fun i => .int ((fun _ => (0 : Int32)) i)) ∧ ArF Z h b3 .int 0 (fun i => .int ((fun _ => (0 : Int32)) i)) ∧ ArF Z h b4 .int 0 (fun i => .int ((fun _ => (0 : Int32)) i)) ∧ ArF Z h b5 .double 0 (fun i => .double ((fun _ => (0 : UInt64)) i)) ∧ ArF Z h b6 .int 0 (fun i => .int ((fun _ => (0 : Int32)) i)) ∧ ArF Z h b7 .long 0 (fun i => .long ((fun _ => (0 : Int64)) i))) (plainFor_of_name pn_com_example_edgewise_edgewise_EdgeSlots) (fun m => ef_rm_init1 m a1) ?_
  intro p e s m below meth c T0 hx hby hml hZ hown hnm hret hlk X0 e0
  have N0 := Fr.nil n0
  have K0 := Keep.refl h0 [a1]
  refine g_aloadN X0 hx hby d1_0 (pc' := 1) rfl rfl rfl ?_
  refine g_init X0 hx hby hZ hown (wi hw 7 rfl) (wi hw 8 rfl) (wi hw 9 rfl) e0 (by rw [hml]; rfl) d1_1 (pc' := 4) rfl (by decide) (W := 0) rfl (by decide) ?_
  intro T1 X1 e1
  refine g_aloadN X1 hx hby d1_4 (pc' := 5) rfl rfl rfl ?_
  refine g_iconst X1 hx hby d1_5 (pc' := 6) rfl (z := (0 : Int32)) rfl ?_
  refine Go.newarr X1 hx hZ (n := 0) (cap := 0) (ty := .int) rfl (wi hw 10 rfl) e1 (by decide) rfl (by decide) (by decide) (by decide) (by decide) (hb hby d1_6) ?_
  intro T2 h2 b2 X2 e2 E2 hb2 V2
  have g3 : n0 ≤ b2 := by rw [hb2]; exact Z0
  have s4 : h0.size ≤ b2 := by rw [hb2]; exact K0.1
  have V5 : ArF Z h2 b2 .int 0 (fun i => .int ((fun _ => (0 : Int32)) i)) := V2
  show Go p.tables e below s _ _ _ (T2.setTop (mkF m 8 #[.val (.ref a1), .val (.int (1 : Int32))] [(.ref b2), (.ref a1)]))
  have f6 := P1.ext E2
  have f7 := P0.ext E2
  refine g_putf X2 hx hby hZ hown (host := "") (Or.inl (wi hw 11 rfl)) Via.refl e2 f6 f7 (Or.inl (wi hw 12 rfl)) (wi hw 2 rfl) (ty := (.array .int)) (by decide) rfl rfl d1_8 (pc' := 11) rfl ?_
  intro T8 h8 X8 e8 W8 F8
  refine g_aloadN X8 hx hby d1_11 (pc' := 12) rfl rfl rfl ?_
  refine g_iconst X8 hx hby d1_12 (pc' := 13) rfl (z := (0 : Int32)) rfl ?_
  refine Go.newarr X8 hx hZ (n := 0) (cap := 0) (ty := .int) rfl (wi hw 10 rfl) e8 (by decide) rfl (by decide) (by decide) (by decide) (by decide) (hb hby d1_13) ?_
  intro T9 h9 b9 X9 e9 E9 hb9 V9
  have g10 : n0 ≤ b9 := by rw [hb9]; exact (Nat.le_trans (Nat.le_trans Z0 E2.1) (Nat.le_of_eq (Wr.size W8).symm))
  have s11 : h0.size ≤ b9 := by rw [hb9]; exact ((K0.ext E2).wr W8 (Or.inl (List.mem_of_getElem? (i := 0) rfl))).1
  have V12 : ArF Z h9 b9 .int 0 (fun i => .int ((fun _ => (0 : Int32)) i)) := V9
  show Go p.tables e below s _ _ _ (T9.setTop (mkF m 15 #[.val (.ref a1), .val (.int (1 : Int32))] [(.ref b9), (.ref a1)]))
  have f13 := (((P2.ext E2).other W8 (Or.inr (slot_ne (Or.inl (wi hw 14 rfl)) (Or.inl (wi hw 12 rfl)) (by decide) (t := (.array .int)) (t' := (.array .int)) (by decide) (by decide)))).ext E9)
  have f14 := ((f7.wr W8).ext E9)
  refine g_putf X9 hx hby hZ hown (host := "") (Or.inl (wi hw 13 rfl)) Via.refl e9 f13 f14 (Or.inl (wi hw 14 rfl)) (wi hw 2 rfl) (ty := (.array .int)) (by decide) rfl rfl d1_15 (pc' := 18) rfl ?_
  intro T15 h15 X15 e15 W15 F15
  refine g_aloadN X15 hx hby d1_18 (pc' := 19) rfl rfl rfl ?_
  refine g_iconst X15 hx hby d1_19 (pc' := 20) rfl (z := (0 : Int32)) rfl ?_
  refine Go.newarr X15 hx hZ (n := 0) (cap := 0) (ty := .int) rfl (wi hw 10 rfl) e15 (by decide) rfl (by decide) (by decide) (by decide) (by decide) (hb hby d1_20) ?_
  intro T16 h16 b16 X16 e16 E16 hb16 V16
  have g17 : n0 ≤ b16 := by rw [hb16]; exact (Nat.le_trans (Nat.le_trans (Nat.le_trans (Nat.le_trans Z0 E2.1) (Nat.le_of_eq (Wr.size W8).symm)) E9.1) (Nat.le_of_eq (Wr.size W15).symm))
  have s18 : h0.size ≤ b16 := by rw [hb16]; exact ((((K0.ext E2).wr W8 (Or.inl (List.mem_of_getElem? (i := 0) rfl))).ext E9).wr W15 (Or.inl (List.mem_of_getElem? (i := 0) rfl))).1
  have V19 : ArF Z h16 b16 .int 0 (fun i => .int ((fun _ => (0 : Int32)) i)) := V16
  have z20 : n0 ≤ h16.size := (Nat.le_trans (Nat.le_trans (Nat.le_trans (Nat.le_trans (Nat.le_trans Z0 E2.1) (Nat.le_of_eq (Wr.size W8).symm)) E9.1) (Nat.le_of_eq (Wr.size W15).symm)) E16.1)
  show Go p.tables e below s _ _ _ (T16.setTop (mkF m 22 #[.val (.ref a1), .val (.int (1 : Int32))] [(.ref b16), (.ref a1)]))
  have f21 := (((((P3.ext E2).other W8 (Or.inr (slot_ne (Or.inl (wi hw 16 rfl)) (Or.inl (wi hw 12 rfl)) (by decide) (t := (.array .int)) (t' := (.array .int)) (by decide) (by decide)))).ext E9).other W15 (Or.inr (slot_ne (Or.inl (wi hw 16 rfl)) (Or.inl (wi hw 14 rfl)) (by decide) (t := (.array .int)) (t' := (.array .int)) (by decide) (by decide)))).ext E16)
  have f22 := ((f14.wr W15).ext E16)
  refine g_putf X16 hx hby hZ hown (host := "") (Or.inl (wi hw 15 rfl)) Via.refl e16 f21 f22 (Or.inl (wi hw 16 rfl)) (wi hw 2 rfl) (ty := (.array .int)) (by decide) rfl rfl d1_22 (pc' := 25) rfl ?_
  intro T23 h23 X23 e23 W23 F23
  refine g_aloadN X23 hx hby d1_25 (pc' := 26) rfl rfl rfl ?_
  refine g_iconst X23 hx hby d1_26 (pc' := 27) rfl (z := (0 : Int32)) rfl ?_
  refine Go.newarr X23 hx hZ (n := 0) (cap := 0) (ty := .int) rfl (wi hw 10 rfl) e23 (by decide) rfl (by decide) (by decide) (by decide) (by decide) (hb hby d1_27) ?_
  intro T24 h24 b24 X24 e24 E24 hb24 V24
  have g25 : n0 ≤ b24 := by rw [hb24]; exact (Nat.le_trans z20 (Nat.le_of_eq (Wr.size W23).symm))
  have s26 : h0.size ≤ b24 := by rw [hb24]; exact ((((((K0.ext E2).wr W8 (Or.inl (List.mem_of_getElem? (i := 0) rfl))).ext E9).wr W15 (Or.inl (List.mem_of_getElem? (i := 0) rfl))).ext E16).wr W23 (Or.inl (List.mem_of_getElem? (i := 0) rfl))).1
  have V27 : ArF Z h24 b24 .int 0 (fun i => .int ((fun _ => (0 : Int32)) i)) := V24
  have K28 : Keep h0 h24 [a1] := (((((((K0.ext E2).wr W8 (Or.inl (List.mem_of_getElem? (i := 0) rfl))).ext E9).wr W15 (Or.inl (List.mem_of_getElem? (i := 0) rfl))).ext E16).wr W23 (Or.inl (List.mem_of_getElem? (i := 0) rfl))).ext E24)
  show Go p.tables e below s _ _ _ (T24.setTop (mkF m 29 #[.val (.ref a1), .val (.int (1 : Int32))] [(.ref b24), (.ref a1)]))
  have f29 := (((((((P4.ext E2).other W8 (Or.inr (slot_ne (Or.inl (wi hw 18 rfl)) (Or.inl (wi hw 12 rfl)) (by decide) (t := (.array .int)) (t' := (.array .int)) (by decide) (by decide)))).ext E9).other W15 (Or.inr (slot_ne (Or.inl (wi hw 18 rfl)) (Or.inl (wi hw 14 rfl)) (by decide) (t := (.array .int)) (t' := (.array .int)) (by decide) (by decide)))).ext E16).other W23 (Or.inr (slot_ne (Or.inl (wi hw 18 rfl)) (Or.inl (wi hw 16 rfl)) (by decide) (t := (.array .int)) (t' := (.array .int)) (by decide) (by decide)))).ext E24)
  have f30 := ((f22.wr W23).ext E24)
  refine g_putf X24 hx hby hZ hown (host := "") (Or.inl (wi hw 17 rfl)) Via.refl e24 f29 f30 (Or.inl (wi hw 18 rfl)) (wi hw 2 rfl) (ty := (.array .int)) (by decide) rfl rfl d1_29 (pc' := 32) rfl ?_
  intro T31 h31 X31 e31 W31 F31
  refine g_aloadN X31 hx hby d1_32 (pc' := 33) rfl rfl rfl ?_
  refine g_iconst X31 hx hby d1_33 (pc' := 34) rfl (z := (0 : Int32)) rfl ?_
  refine Go.newarr X31 hx hZ (n := 0) (cap := 0) (ty := .double) rfl (wi hw 19 rfl) e31 (by decide) rfl (by decide) (by decide) (by decide) (by decide) (hb hby d1_34) ?_
  intro T32 h32 b32 X32 e32 E32 hb32 V32
  have g33 : n0 ≤ b32 := by rw [hb32]; exact (Nat.le_trans (Nat.le_trans (Nat.le_trans z20 (Nat.le_of_eq (Wr.size W23).symm)) E24.1) (Nat.le_of_eq (Wr.size W31).symm))
  have s34 : h0.size ≤ b32 := by rw [hb32]; exact (K28.wr W31 (Or.inl (List.mem_of_getElem? (i := 0) rfl))).1
  have V35 : ArF Z h32 b32 .double 0 (fun i => .double ((fun _ => (0 : UInt64)) i)) := V32
  show Go p.tables e below s _ _ _ (T32.setTop (mkF m 36 #[.val (.ref a1), .val (.int (1 : Int32))] [(.ref b32), (.ref a1)]))
  have f36 := (((((((((P5.ext E2).other W8 (Or.inr (slot_ne (Or.inl (wi hw 21 rfl)) (Or.inl (wi hw 12 rfl)) (by decide) (t := (.array .double)) (t' := (.array .int)) (by decide) (by decide)))).ext E9).other W15 (Or.inr (slot_ne (Or.inl (wi hw 21 rfl)) (Or.inl (wi hw 14 rfl)) (by decide) (t := (.array .double)) (t' := (.array .int)) (by decide) (by decide)))).ext E16).other W23 (Or.inr (slot_ne (Or.inl (wi hw 21 rfl)) (Or.inl (wi hw 16 rfl)) (by decide) (t := (.array .double)) (t' := (.array .int)) (by decide) (by decide)))).ext E24).other W31 (Or.inr (slot_ne (Or.inl (wi hw 21 rfl)) (Or.inl (wi hw 18 rfl)) (by decide) (t := (.array .double)) (t' := (.array .int)) (by decide) (by decide)))).ext E32)
  have f37 := ((f30.wr W31).ext E32)
  refine g_putf X32 hx hby hZ hown (host := "") (Or.inl (wi hw 20 rfl)) Via.refl e32 f36 f37 (Or.inl (wi hw 21 rfl)) (wi hw 2 rfl) (ty := (.array .double)) (by decide) rfl rfl d1_36 (pc' := 39) rfl ?_
  intro T38 h38 X38 e38 W38 F38
  have z39 : n0 ≤ h38.size := (Nat.le_trans (Nat.le_trans (Nat.le_trans (Nat.le_trans (Nat.le_trans z20 (Nat.le_of_eq (Wr.size W23).symm)) E24.1) (Nat.le_of_eq (Wr.size W31).symm)) E32.1) (Nat.le_of_eq (Wr.size W38).symm))
  refine g_aloadN X38 hx hby d1_39 (pc' := 40) rfl rfl rfl ?_
  refine g_iconst X38 hx hby d1_40 (pc' := 41) rfl (z := (0 : Int32)) rfl ?_
  refine Go.newarr X38 hx hZ (n := 0) (cap := 0) (ty := .int) rfl (wi hw 10 rfl) e38 (by decide) rfl (by decide) (by decide) (by decide) (by decide) (hb hby d1_41) ?_
  intro T40 h40 b40 X40 e40 E40 hb40 V40
  have g41 : n0 ≤ b40 := by rw [hb40]; exact z39
  have s42 : h0.size ≤ b40 := by rw [hb40]; exact (((K28.wr W31 (Or.inl (List.mem_of_getElem? (i := 0) rfl))).ext E32).wr W38 (Or.inl (List.mem_of_getElem? (i := 0) rfl))).1
  have V43 : ArF Z h40 b40 .int 0 (fun i => .int ((fun _ => (0 : Int32)) i)) := V40
  show Go p.tables e below s _ _ _ (T40.setTop (mkF m 43 #[.val (.ref a1), .val (.int (1 : Int32))] [(.ref b40), (.ref a1)]))
  have f44 := (((((((((((P6.ext E2).other W8 (Or.inr (slot_ne (Or.inl (wi hw 23 rfl)) (Or.inl (wi hw 12 rfl)) (by decide) (t := (.array .int)) (t' := (.array .int)) (by decide) (by decide)))).ext E9).other W15 (Or.inr (slot_ne (Or.inl (wi hw 23 rfl)) (Or.inl (wi hw 14 rfl)) (by decide) (t := (.array .int)) (t' := (.array .int)) (by decide) (by decide)))).ext E16).other W23 (Or.inr (slot_ne (Or.inl (wi hw 23 rfl)) (Or.inl (wi hw 16 rfl)) (by decide) (t := (.array .int)) (t' := (.array .int)) (by decide) (by decide)))).ext E24).other W31 (Or.inr (slot_ne (Or.inl (wi hw 23 rfl)) (Or.inl (wi hw 18 rfl)) (by decide) (t := (.array .int)) (t' := (.array .int)) (by decide) (by decide)))).ext E32).other W38 (Or.inr (slot_ne (Or.inl (wi hw 23 rfl)) (Or.inl (wi hw 21 rfl)) (by decide) (t := (.array .int)) (t' := (.array .double)) (by decide) (by decide)))).ext E40)
  have f45 := ((f37.wr W38).ext E40)
  refine g_putf X40 hx hby hZ hown (host := "") (Or.inl (wi hw 22 rfl)) Via.refl e40 f44 f45 (Or.inl (wi hw 23 rfl)) (wi hw 2 rfl) (ty := (.array .int)) (by decide) rfl rfl d1_43 (pc' := 46) rfl ?_
  intro T46 h46 X46 e46 W46 F46
  have N46 := (Fr.snoc X46 (Fr.snoc X38 (Fr.snoc X31 (Fr.snoc X23 (Fr.snoc X15 (Fr.snoc X8 N0 ge_a1) ge_a1) ge_a1) ge_a1) ge_a1) ge_a1)
  refine g_aloadN X46 hx hby d1_46 (pc' := 47) rfl rfl rfl ?_
  refine g_iconst X46 hx hby d1_47 (pc' := 48) rfl (z := (0 : Int32)) rfl ?_
  refine Go.newarr X46 hx hZ (n := 0) (cap := 0) (ty := .long) rfl (wi hw 24 rfl) e46 (by decide) rfl (by decide) (by decide) (by decide) (by decide) (hb hby d1_48) ?_
  intro T47 h47 b47 X47 e47 E47 hb47 V47
  have g48 : n0 ≤ b47 := by rw [hb47]; exact (Nat.le_trans (Nat.le_trans z39 E40.1) (Nat.le_of_eq (Wr.size W46).symm))
  have s49 : h0.size ≤ b47 := by rw [hb47]; exact (((((K28.wr W31 (Or.inl (List.mem_of_getElem? (i := 0) rfl))).ext E32).wr W38 (Or.inl (List.mem_of_getElem? (i := 0) rfl))).ext E40).wr W46 (Or.inl (List.mem_of_getElem? (i := 0) rfl))).1
  have V50 : ArF Z h47 b47 .long 0 (fun i => .long ((fun _ => (0 : Int64)) i)) := V47
  show Go p.tables e below s _ _ _ (T47.setTop (mkF m 50 #[.val (.ref a1), .val (.int (1 : Int32))] [(.ref b47), (.ref a1)]))
  have f51 := (((((((((((((P7.ext E2).other W8 (Or.inr (slot_ne (Or.inl (wi hw 26 rfl)) (Or.inl (wi hw 12 rfl)) (by decide) (t := (.array .long)) (t' := (.array .int)) (by decide) (by decide)))).ext E9).other W15 (Or.inr (slot_ne (Or.inl (wi hw 26 rfl)) (Or.inl (wi hw 14 rfl)) (by decide) (t := (.array .long)) (t' := (.array .int)) (by decide) (by decide)))).ext E16).other W23 (Or.inr (slot_ne (Or.inl (wi hw 26 rfl)) (Or.inl (wi hw 16 rfl)) (by decide) (t := (.array .long)) (t' := (.array .int)) (by decide) (by decide)))).ext E24).other W31 (Or.inr (slot_ne (Or.inl (wi hw 26 rfl)) (Or.inl (wi hw 18 rfl)) (by decide) (t := (.array .long)) (t' := (.array .int)) (by decide) (by decide)))).ext E32).other W38 (Or.inr (slot_ne (Or.inl (wi hw 26 rfl)) (Or.inl (wi hw 21 rfl)) (by decide) (t := (.array .long)) (t' := (.array .double)) (by decide) (by decide)))).ext E40).other W46 (Or.inr (slot_ne (Or.inl (wi hw 26 rfl)) (Or.inl (wi hw 23 rfl)) (by decide) (t := (.array .long)) (t' := (.array .int)) (by decide) (by decide)))).ext E47)
  have f52 := ((f45.wr W46).ext E47)
  refine g_putf X47 hx hby hZ hown (host := "") (Or.inl (wi hw 25 rfl)) Via.refl e47 f51 f52 (Or.inl (wi hw 26 rfl)) (wi hw 2 rfl) (ty := (.array .long)) (by decide) rfl rfl d1_50 (pc' := 53) rfl ?_
  intro T53 h53 X53 e53 W53 F53
  have K54 : Keep h0 h53 [a1] := (((((((K28.wr W31 (Or.inl (List.mem_of_getElem? (i := 0) rfl))).ext E32).wr W38 (Or.inl (List.mem_of_getElem? (i := 0) rfl))).ext E40).wr W46 (Or.inl (List.mem_of_getElem? (i := 0) rfl))).ext E47).wr W53 (Or.inl (List.mem_of_getElem? (i := 0) rfl)))
  refine g_aloadN X53 hx hby d1_53 (pc' := 54) rfl rfl rfl ?_
  refine g_iloadN X53 hx hby d1_54 (pc' := 55) rfl rfl ?_
  have f55 := ((((((((((((((P8.ext E2).other W8 (Or.inr (slot_ne (Or.inr (wi hw 28 rfl)) (Or.inl (wi hw 12 rfl)) (by decide) (t := .boolean) (t' := (.array .int)) (by decide) (by decide)))).ext E9).other W15 (Or.inr (slot_ne (Or.inr (wi hw 28 rfl)) (Or.inl (wi hw 14 rfl)) (by decide) (t := .boolean) (t' := (.array .int)) (by decide) (by decide)))).ext E16).other W23 (Or.inr (slot_ne (Or.inr (wi hw 28 rfl)) (Or.inl (wi hw 16 rfl)) (by decide) (t := .boolean) (t' := (.array .int)) (by decide) (by decide)))).ext E24).other W31 (Or.inr (slot_ne (Or.inr (wi hw 28 rfl)) (Or.inl (wi hw 18 rfl)) (by decide) (t := .boolean) (t' := (.array .int)) (by decide) (by decide)))).ext E32).other W38 (Or.inr (slot_ne (Or.inr (wi hw 28 rfl)) (Or.inl (wi hw 21 rfl)) (by decide) (t := .boolean) (t' := (.array .double)) (by decide) (by decide)))).ext E40).other W46 (Or.inr (slot_ne (Or.inr (wi hw 28 rfl)) (Or.inl (wi hw 23 rfl)) (by decide) (t := .boolean) (t' := (.array .int)) (by decide) (by decide)))).ext E47).other W53 (Or.inr (slot_ne (Or.inr (wi hw 28 rfl)) (Or.inl (wi hw 26 rfl)) (by decide) (t := .boolean) (t' := (.array .long)) (by decide) (by decide))))
  have f56 := f52.wr W53
  obtain ⟨T57, h57, X57, e57, W57, st57⟩ := putFN X53 hx hZ hown (wi hw 27 rfl) Via.refl e53 f55 f56 (Or.inr ⟨(wi hw 28 rfl), rfl, hnm⟩) (wi hw 2 rfl) (ty := .boolean) (v' := (.int (1 : Int32))) (by decide) rfl rfl (g := (mkF m 55 #[.val (.ref a1), .val (.int (1 : Int32))] [(.int (1 : Int32)), (.ref a1)])) rfl rfl (hb hby d1_55)
  refine Go.of st57 ?_
  have F57 := f55.same W57
  have z58 : n0 ≤ h57.size := (Nat.le_trans (Nat.le_trans (Nat.le_trans (Nat.le_trans (Nat.le_trans z39 E40.1) (Nat.le_of_eq (Wr.size W46).symm)) E47.1) (Nat.le_of_eq (Wr.size W53).symm)) (Nat.le_of_eq (Wr.size W57).symm))
  show Go p.tables e below s _ _ _ (T57.setTop (mkF m 58 #[.val (.ref a1), .val (.int (1 : Int32))] []))
  refine Go.retV X57 hx hlk hret (hb hby d1_58) rfl (by decide) (by decide) ?_
  have f59 := (((((((((((((F8.ext E9).other W15 (Or.inr (slot_ne (Or.inl (wi hw 12 rfl)) (Or.inl (wi hw 14 rfl)) (by decide) (t := (.array .int)) (t' := (.array .int)) (by decide) (by decide)))).ext E16).other W23 (Or.inr (slot_ne (Or.inl (wi hw 12 rfl)) (Or.inl (wi hw 16 rfl)) (by decide) (t := (.array .int)) (t' := (.array .int)) (by decide) (by decide)))).ext E24).other W31 (Or.inr (slot_ne (Or.inl (wi hw 12 rfl)) (Or.inl (wi hw 18 rfl)) (by decide) (t := (.array .int)) (t' := (.array .int)) (by decide) (by decide)))).ext E32).other W38 (Or.inr (slot_ne (Or.inl (wi hw 12 rfl)) (Or.inl (wi hw 21 rfl)) (by decide) (t := (.array .int)) (t' := (.array .double)) (by decide) (by decide)))).ext E40).other W46 (Or.inr (slot_ne (Or.inl (wi hw 12 rfl)) (Or.inl (wi hw 23 rfl)) (by decide) (t := (.array .int)) (t' := (.array .int)) (by decide) (by decide)))).ext E47).other W53 (Or.inr (slot_ne (Or.inl (wi hw 12 rfl)) (Or.inl (wi hw 26 rfl)) (by decide) (t := (.array .int)) (t' := (.array .long)) (by decide) (by decide)))).other W57 (Or.inr (slot_ne (Or.inl (wi hw 12 rfl)) (Or.inr (wi hw 28 rfl)) (by decide) (t := (.array .int)) (t' := .boolean) (by decide) (by decide))))
  have f60 := (((((((((((F15.ext E16).other W23 (Or.inr (slot_ne (Or.inl (wi hw 14 rfl)) (Or.inl (wi hw 16 rfl)) (by decide) (t := (.array .int)) (t' := (.array .int)) (by decide) (by decide)))).ext E24).other W31 (Or.inr (slot_ne (Or.inl (wi hw 14 rfl)) (Or.inl (wi hw 18 rfl)) (by decide) (t := (.array .int)) (t' := (.array .int)) (by decide) (by decide)))).ext E32).other W38 (Or.inr (slot_ne (Or.inl (wi hw 14 rfl)) (Or.inl (wi hw 21 rfl)) (by decide) (t := (.array .int)) (t' := (.array .double)) (by decide) (by decide)))).ext E40).other W46 (Or.inr (slot_ne (Or.inl (wi hw 14 rfl)) (Or.inl (wi hw 23 rfl)) (by decide) (t := (.array .int)) (t' := (.array .int)) (by decide) (by decide)))).ext E47).other W53 (Or.inr (slot_ne (Or.inl (wi hw 14 rfl)) (Or.inl (wi hw 26 rfl)) (by decide) (t := (.array .int)) (t' := (.array .long)) (by decide) (by decide)))).other W57 (Or.inr (slot_ne (Or.inl (wi hw 14 rfl)) (Or.inr (wi hw 28 rfl)) (by decide) (t := (.array .int)) (t' := .boolean) (by decide) (by decide))))
  have f61 := (((((((((F23.ext E24).other W31 (Or.inr (slot_ne (Or.inl (wi hw 16 rfl)) (Or.inl (wi hw 18 rfl)) (by decide) (t := (.array .int)) (t' := (.array .int)) (by decide) (by decide)))).ext E32).other W38 (Or.inr (slot_ne (Or.inl (wi hw 16 rfl)) (Or.inl (wi hw 21 rfl)) (by decide) (t := (.array .int)) (t' := (.array .double)) (by decide) (by decide)))).ext E40).other W46 (Or.inr (slot_ne (Or.inl (wi hw 16 rfl)) (Or.inl (wi hw 23 rfl)) (by decide) (t := (.array .int)) (t' := (.array .int)) (by decide) (by decide)))).ext E47).other W53 (Or.inr (slot_ne (Or.inl (wi hw 16 rfl)) (Or.inl (wi hw 26 rfl)) (by decide) (t := (.array .int)) (t' := (.array .long)) (by decide) (by decide)))).other W57 (Or.inr (slot_ne (Or.inl (wi hw 16 rfl)) (Or.inr (wi hw 28 rfl)) (by decide) (t := (.array .int)) (t' := .boolean) (by decide) (by decide))))
  have f62 := (((((((F31.ext E32).other W38 (Or.inr (slot_ne (Or.inl (wi hw 18 rfl)) (Or.inl (wi hw 21 rfl)) (by decide) (t := (.array .int)) (t' := (.array .double)) (by decide) (by decide)))).ext E40).other W46 (Or.inr (slot_ne (Or.inl (wi hw 18 rfl)) (Or.inl (wi hw 23 rfl)) (by decide) (t := (.array .int)) (t' := (.array .int)) (by decide) (by decide)))).ext E47).other W53 (Or.inr (slot_ne (Or.inl (wi hw 18 rfl)) (Or.inl (wi hw 26 rfl)) (by decide) (t := (.array .int)) (t' := (.array .long)) (by decide) (by decide)))).other W57 (Or.inr (slot_ne (Or.inl (wi hw 18 rfl)) (Or.inr (wi hw 28 rfl)) (by decide) (t := (.array .int)) (t' := .boolean) (by decide) (by decide))))
  have f63 := (((((F38.ext E40).other W46 (Or.inr (slot_ne (Or.inl (wi hw 21 rfl)) (Or.inl (wi hw 23 rfl)) (by decide) (t := (.array .double)) (t' := (.array .int)) (by decide) (by decide)))).ext E47).other W53 (Or.inr (slot_ne (Or.inl (wi hw 21 rfl)) (Or.inl (wi hw 26 rfl)) (by decide) (t := (.array .double)) (t' := (.array .long)) (by decide) (by decide)))).other W57 (Or.inr (slot_ne (Or.inl (wi hw 21 rfl)) (Or.inr (wi hw 28 rfl)) (by decide) (t := (.array .double)) (t' := .boolean) (by decide) (by decide))))
  have f64 := (((F46.ext E47).other W53 (Or.inr (slot_ne (Or.inl (wi hw 23 rfl)) (Or.inl (wi hw 26 rfl)) (by decide) (t := (.array .int)) (t' := (.array .long)) (by decide) (by decide)))).other W57 (Or.inr (slot_ne (Or.inl (wi hw 23 rfl)) (Or.inr (wi hw 28 rfl)) (by decide) (t := (.array .int)) (t' := .boolean) (by decide) (by decide))))
  have f65 := (F53.other W57 (Or.inr (slot_ne (Or.inl (wi hw 26 rfl)) (Or.inr (wi hw 28 rfl)) (by decide) (t := (.array .long)) (t' := .boolean) (by decide) (by decide))))
  rw [e57]
  have ne66 : a1 ≠ b2 := Nat.ne_of_lt (by rw [hb2]; exact P11.lt)
  have ne67 : b2 ≠ b9 := Nat.ne_of_lt (by rw [hb9]; exact (V5.other W8 (Ne.symm ne66)).lt)
  have ne68 : b2 ≠ b16 := Nat.ne_of_lt (by rw [hb16]; exact (((V5.other W8 (Ne.symm ne66)).ext E9).other W15 (Ne.symm ne66)).lt)
  have ne69 : b2 ≠ b24 := Nat.ne_of_lt (by rw [hb24]; exact (((((V5.other W8 (Ne.symm ne66)).ext E9).other W15 (Ne.symm ne66)).ext E16).other W23 (Ne.symm ne66)).lt)
  have ne70 : b2 ≠ b32 := Nat.ne_of_lt (by rw [hb32]; exact (((((((V5.other W8 (Ne.symm ne66)).ext E9).other W15 (Ne.symm ne66)).ext E16).other W23 (Ne.symm ne66)).ext E24).other W31 (Ne.symm ne66)).lt)
  have ne71 : b2 ≠ b40 := Nat.ne_of_lt (by rw [hb40]; exact (((((((((V5.other W8 (Ne.symm ne66)).ext E9).other W15 (Ne.symm ne66)).ext E16).other W23 (Ne.symm ne66)).ext E24).other W31 (Ne.symm ne66)).ext E32).other W38 (Ne.symm ne66)).lt)
  have ne72 : b2 ≠ b47 := Nat.ne_of_lt (by rw [hb47]; exact (((((((((((V5.other W8 (Ne.symm ne66)).ext E9).other W15 (Ne.symm ne66)).ext E16).other W23 (Ne.symm ne66)).ext E24).other W31 (Ne.symm ne66)).ext E32).other W38 (Ne.symm ne66)).ext E40).other W46 (Ne.symm ne66)).lt)
  have ne73 : a1 ≠ b9 := Nat.ne_of_lt (by rw [hb9]; exact F8.lt)
  have ne74 : b9 ≠ b16 := Nat.ne_of_lt (by rw [hb16]; exact (V12.other W15 (Ne.symm ne73)).lt)
  have ne75 : b9 ≠ b24 := Nat.ne_of_lt (by rw [hb24]; exact (((V12.other W15 (Ne.symm ne73)).ext E16).other W23 (Ne.symm ne73)).lt)
  have ne76 : b9 ≠ b32 := Nat.ne_of_lt (by rw [hb32]; exact (((((V12.other W15 (Ne.symm ne73)).ext E16).other W23 (Ne.symm ne73)).ext E24).other W31 (Ne.symm ne73)).lt)
  have ne77 : b9 ≠ b40 := Nat.ne_of_lt (by rw [hb40]; exact (((((((V12.other W15 (Ne.symm ne73)).ext E16).other W23 (Ne.symm ne73)).ext E24).other W31 (Ne.symm ne73)).ext E32).other W38 (Ne.symm ne73)).lt)
  have ne78 : b9 ≠ b47 := Nat.ne_of_lt (by rw [hb47]; exact (((((((((V12.other W15 (Ne.symm ne73)).ext E16).other W23 (Ne.symm ne73)).ext E24).other W31 (Ne.symm ne73)).ext E32).other W38 (Ne.symm ne73)).ext E40).other W46 (Ne.symm ne73)).lt)
  have ne79 : a1 ≠ b16 := Nat.ne_of_lt (by rw [hb16]; exact F15.lt)
  have ne80 : b16 ≠ b24 := Nat.ne_of_lt (by rw [hb24]; exact (V19.other W23 (Ne.symm ne79)).lt)
  have ne81 : b16 ≠ b32 := Nat.ne_of_lt (by rw [hb32]; exact (((V19.other W23 (Ne.symm ne79)).ext E24).other W31 (Ne.symm ne79)).lt)
  have ne82 : b16 ≠ b40 := Nat.ne_of_lt (by rw [hb40]; exact (((((V19.other W23 (Ne.symm ne79)).ext E24).other W31 (Ne.symm ne79)).ext E32).other W38 (Ne.symm ne79)).lt)
  have ne83 : b16 ≠ b47 := Nat.ne_of_lt (by rw [hb47]; exact (((((((V19.other W23 (Ne.symm ne79)).ext E24).other W31 (Ne.symm ne79)).ext E32).other W38 (Ne.symm ne79)).ext E40).other W46 (Ne.symm ne79)).lt)
  have ne84 : a1 ≠ b24 := Nat.ne_of_lt (by rw [hb24]; exact F23.lt)
  have ne85 : b24 ≠ b32 := Nat.ne_of_lt (by rw [hb32]; exact (V27.other W31 (Ne.symm ne84)).lt)
  have ne86 : b24 ≠ b40 := Nat.ne_of_lt (by rw [hb40]; exact (((V27.other W31 (Ne.symm ne84)).ext E32).other W38 (Ne.symm ne84)).lt)
  have ne87 : b24 ≠ b47 := Nat.ne_of_lt (by rw [hb47]; exact (((((V27.other W31 (Ne.symm ne84)).ext E32).other W38 (Ne.symm ne84)).ext E40).other W46 (Ne.symm ne84)).lt)
  have ne88 : a1 ≠ b32 := Nat.ne_of_lt (by rw [hb32]; exact F31.lt)
  have ne89 : b32 ≠ b40 := Nat.ne_of_lt (by rw [hb40]; exact (V35.other W38 (Ne.symm ne88)).lt)
  have ne90 : b32 ≠ b47 := Nat.ne_of_lt (by rw [hb47]; exact (((V35.other W38 (Ne.symm ne88)).ext E40).other W46 (Ne.symm ne88)).lt)
  have ne91 : a1 ≠ b40 := Nat.ne_of_lt (by rw [hb40]; exact F38.lt)
  have ne92 : b40 ≠ b47 := Nat.ne_of_lt (by rw [hb47]; exact (V43.other W46 (Ne.symm ne91)).lt)
  have f93 := (((((((((((((((P9.ext E2).other W8 (Or.inr (slot_ne (Or.inl (wi hw 39 rfl)) (Or.inl (wi hw 12 rfl)) (by decide) (t := .int) (t' := (.array .int)) (by decide) (by decide)))).ext E9).other W15 (Or.inr (slot_ne (Or.inl (wi hw 39 rfl)) (Or.inl (wi hw 14 rfl)) (by decide) (t := .int) (t' := (.array .int)) (by decide) (by decide)))).ext E16).other W23 (Or.inr (slot_ne (Or.inl (wi hw 39 rfl)) (Or.inl (wi hw 16 rfl)) (by decide) (t := .int) (t' := (.array .int)) (by decide) (by decide)))).ext E24).other W31 (Or.inr (slot_ne (Or.inl (wi hw 39 rfl)) (Or.inl (wi hw 18 rfl)) (by decide) (t := .int) (t' := (.array .int)) (by decide) (by decide)))).ext E32).other W38 (Or.inr (slot_ne (Or.inl (wi hw 39 rfl)) (Or.inl (wi hw 21 rfl)) (by decide) (t := .int) (t' := (.array .double)) (by decide) (by decide)))).ext E40).other W46 (Or.inr (slot_ne (Or.inl (wi hw 39 rfl)) (Or.inl (wi hw 23 rfl)) (by decide) (t := .int) (t' := (.array .int)) (by decide) (by decide)))).ext E47).other W53 (Or.inr (slot_ne (Or.inl (wi hw 39 rfl)) (Or.inl (wi hw 26 rfl)) (by decide) (t := .int) (t' := (.array .long)) (by decide) (by decide)))).other W57 (Or.inr (slot_ne (Or.inl (wi hw 39 rfl)) (Or.inr (wi hw 28 rfl)) (by decide) (t := .int) (t' := .boolean) (by decide) (by decide))))
  have f94 := (((((((((((((((P10.ext E2).other W8 (Or.inr (slot_ne (Or.inl (wi hw 79 rfl)) (Or.inl (wi hw 12 rfl)) (by decide) (t := .int) (t' := (.array .int)) (by decide) (by decide)))).ext E9).other W15 (Or.inr (slot_ne (Or.inl (wi hw 79 rfl)) (Or.inl (wi hw 14 rfl)) (by decide) (t := .int) (t' := (.array .int)) (by decide) (by decide)))).ext E16).other W23 (Or.inr (slot_ne (Or.inl (wi hw 79 rfl)) (Or.inl (wi hw 16 rfl)) (by decide) (t := .int) (t' := (.array .int)) (by decide) (by decide)))).ext E24).other W31 (Or.inr (slot_ne (Or.inl (wi hw 79 rfl)) (Or.inl (wi hw 18 rfl)) (by decide) (t := .int) (t' := (.array .int)) (by decide) (by decide)))).ext E32).other W38 (Or.inr (slot_ne (Or.inl (wi hw 79 rfl)) (Or.inl (wi hw 21 rfl)) (by decide) (t := .int) (t' := (.array .double)) (by decide) (by decide)))).ext E40).other W46 (Or.inr (slot_ne (Or.inl (wi hw 79 rfl)) (Or.inl (wi hw 23 rfl)) (by decide) (t := .int) (t' := (.array .int)) (by decide) (by decide)))).ext E47).other W53 (Or.inr (slot_ne (Or.inl (wi hw 79 rfl)) (Or.inl (wi hw 26 rfl)) (by decide) (t := .int) (t' := (.array .long)) (by decide) (by decide)))).other W57 (Or.inr (slot_ne (Or.inl (wi hw 79 rfl)) (Or.inr (wi hw 28 rfl)) (by decide) (t := .int) (t' := .boolean) (by decide) (by decide))))
  have f95 := (((((((((((((((P11.ext E2).other W8 (Or.inr (slot_ne (Or.inl (wi hw 81 rfl)) (Or.inl (wi hw 12 rfl)) (by decide) (t := .long) (t' := (.array .int)) (by decide) (by decide)))).ext E9).other W15 (Or.inr (slot_ne (Or.inl (wi hw 81 rfl)) (Or.inl (wi hw 14 rfl)) (by decide) (t := .long) (t' := (.array .int)) (by decide) (by decide)))).ext E16).other W23 (Or.inr (slot_ne (Or.inl (wi hw 81 rfl)) (Or.inl (wi hw 16 rfl)) (by decide) (t := .long) (t' := (.array .int)) (by decide) (by decide)))).ext E24).other W31 (Or.inr (slot_ne (Or.inl (wi hw 81 rfl)) (Or.inl (wi hw 18 rfl)) (by decide) (t := .long) (t' := (.array .int)) (by decide) (by decide)))).ext E32).other W38 (Or.inr (slot_ne (Or.inl (wi hw 81 rfl)) (Or.inl (wi hw 21 rfl)) (by decide) (t := .long) (t' := (.array .double)) (by decide) (by decide)))).ext E40).other W46 (Or.inr (slot_ne (Or.inl (wi hw 81 rfl)) (Or.inl (wi hw 23 rfl)) (by decide) (t := .long) (t' := (.array .int)) (by decide) (by decide)))).ext E47).other W53 (Or.inr (slot_ne (Or.inl (wi hw 81 rfl)) (Or.inl (wi hw 26 rfl)) (by decide) (t := .long) (t' := (.array .long)) (by decide) (by decide)))).other W57 (Or.inr (slot_ne (Or.inl (wi hw 81 rfl)) (Or.inr (wi hw 28 rfl)) (by decide) (t := .long) (t' := .boolean) (by decide) (by decide))))
  have f96 := ((((((((((((((V5.other W8 (Ne.symm ne66)).ext E9).other W15 (Ne.symm ne66)).ext E16).other W23 (Ne.symm ne66)).ext E24).other W31 (Ne.symm ne66)).ext E32).other W38 (Ne.symm ne66)).ext E40).other W46 (Ne.symm ne66)).ext E47).other W53 (Ne.symm ne66)).other W57 (Ne.symm ne66))
  have f97 := ((((((((((((V12.other W15 (Ne.symm ne73)).ext E16).other W23 (Ne.symm ne73)).ext E24).other W31 (Ne.symm ne73)).ext E32).other W38 (Ne.symm ne73)).ext E40).other W46 (Ne.symm ne73)).ext E47).other W53 (Ne.symm ne73)).other W57 (Ne.symm ne73))
  have f98 := ((((((((((V19.other W23 (Ne.symm ne79)).ext E24).other W31 (Ne.symm ne79)).ext E32).other W38 (Ne.symm ne79)).ext E40).other W46 (Ne.symm ne79)).ext E47).other W53 (Ne.symm ne79)).other W57 (Ne.symm ne79))
  have f99 := ((((((((V27.other W31 (Ne.symm ne84)).ext E32).other W38 (Ne.symm ne84)).ext E40).other W46 (Ne.symm ne84)).ext E47).other W53 (Ne.symm ne84)).other W57 (Ne.symm ne84))
  have f100 := ((((((V35.other W38 (Ne.symm ne88)).ext E40).other W46 (Ne.symm ne88)).ext E47).other W53 (Ne.symm ne88)).other W57 (Ne.symm ne88))
  have f101 := ((((V43.other W46 (Ne.symm ne91)).ext E47).other W53 (Ne.symm ne91)).other W57 (Ne.symm ne91))
  have ne102 : a1 ≠ b47 := Nat.ne_of_lt (by rw [hb47]; exact F46.lt)
  have f103 := ((V50.other W53 (Ne.symm ne102)).other W57 (Ne.symm ne102))
  exact ⟨b2, b9, b16, b24, b32, b40, b47, rfl, (Fr.snoc X57 (Fr.snoc X53 N46 ge_a1) ge_a1), (K54.wr W57 (Or.inl (List.mem_of_getElem? (i := 0) rfl))), g3, s4, g10, s11, g17, s18, g25, s26, g33, s34, g41, s42, g48, s49, ne67, ne68, ne69, ne70, ne71, ne72, ne74, ne75, ne76, ne77, ne78, ne80, ne81, ne82, ne83, ne85, ne86, ne87, ne89, ne90, ne92, f59, f60, f61, f62, f63, f64, f65, F57, f93, f94, f95, f96, f97, f98, f99, f100, f101, f103⟩
theorem d7_0 : decode jdk_29_method_66_code 0 = .ok (.lload_n 0, 1) := by decide +kernel
theorem d7_1 : decode jdk_29_method_66_code 1 = .ok (.lload_n 2, 1) := by decide +kernel
theorem d7_2 : decode jdk_29_method_66_code 2 = .ok (.lcmp, 1) := by decide +kernel
theorem d7_3 : decode jdk_29_method_66_code 3 = .ok (.ifCond .lt 7, 3) := by decide +kernel
theorem d7_6 : decode jdk_29_method_66_code 6 = .ok (.lload_n 0, 1) := by decide +kernel
theorem d7_7 : decode jdk_29_method_66_code 7 = .ok (.goto 4, 3) := by decide +kernel
theorem d7_11 : decode jdk_29_method_66_code 11 = .ok (.lreturn, 1) := by decide +kernel
theorem ef_rm_maxJ (m : MethodId) (x0 : Int64) (x1 : Int64) : entryFrame m #[(.long x0), (.long x1)] 4 = mkF m 0 #[.val (.long x0), .second, .val (.long x1), .second] [] := by first | (simp [entryFrame, mkF, argsToLocals, Value.category]; done) | rfl
set_option maxRecDepth 65536 in
set_option maxHeartbeats 40000000 in
theorem rm_maxJ (l : Launch) (Z : State) (a0 : Array Value) (hw : ∀ d ∈ tables_1, d.before a0 Z = true) (q1 : Int64) (q2 : Int64) (h0 : Heap) (n0 : Nat) (Z0 : n0 ≤ h0.size) (y1 : q2.toInt ≤ q1.toInt) :
    Con l Z (⟨"java/lang/Math", "max", "(JJ)J"⟩ : MethodName) jdk_29_method_66_code 4 (some .long) ({ frames := 0, cells := 0, slots := 0, locals := 0 } : Room) #[(.long q1), (.long q2)] h0 (fun v h L => v = some (.long q1) ∧ Fr n0 L ∧ h = h0) := by
  refine meet (y := (⟨"java/lang/Math", "max", "(JJ)J"⟩ : MethodName)) (Q := fun v h L => v = some (.long q1) ∧ Fr n0 L ∧ h = h0) (Jvm.Free.JP.mathPlain rfl (by decide +kernel)) (fun m => ef_rm_maxJ m q1 q2) ?_
  intro p e s m below meth c T0 hx hby hml hZ hown hnm hret hlk X0 e0
  have N0 := Fr.nil n0
  refine g_lloadN X0 hx hby d7_0 (pc' := 1) rfl rfl ?_
  refine g_lloadN X0 hx hby d7_1 (pc' := 2) rfl rfl ?_
  refine g_lcmp X0 hx hby d7_2 (pc' := 3) rfl  ?_
  have hc3 : ¬ (q1.toInt < q2.toInt) := by omega
  refine g_ifNo X0 hx hby d7_3 (pc' := 6) (flt (show ¬ ((lcmpW q1 q2) < (0 : Int32)) from fun q => hc3 (Int64.lt_iff_toInt_lt.mp ((lw_lt q1 q2).mp q)))).1 rfl ?_
  refine g_lloadN X0 hx hby d7_6 (pc' := 7) rfl rfl ?_
  refine g_goto X0 hx hby d7_7 (pc' := 11) (by decide) (by decide) ?_
  refine Go.retL X0 hx hlk hret (hb hby d7_11) (by decide) (by decide) ?_
  exact ⟨rfl, N0, e0⟩
theorem d8_0 : decode jdk_29_method_70_code 0 = .ok (.lload_n 0, 1) := by decide +kernel
theorem d8_1 : decode jdk_29_method_70_code 1 = .ok (.lload_n 2, 1) := by decide +kernel
theorem d8_2 : decode jdk_29_method_70_code 2 = .ok (.lcmp, 1) := by decide +kernel
theorem d8_3 : decode jdk_29_method_70_code 3 = .ok (.ifCond .gt 7, 3) := by decide +kernel
theorem d8_10 : decode jdk_29_method_70_code 10 = .ok (.lload_n 2, 1) := by decide +kernel
theorem d8_11 : decode jdk_29_method_70_code 11 = .ok (.lreturn, 1) := by decide +kernel
theorem ef_rm_minJ (m : MethodId) (x0 : Int64) (x1 : Int64) : entryFrame m #[(.long x0), (.long x1)] 4 = mkF m 0 #[.val (.long x0), .second, .val (.long x1), .second] [] := by first | (simp [entryFrame, mkF, argsToLocals, Value.category]; done) | rfl
set_option maxRecDepth 65536 in
set_option maxHeartbeats 40000000 in
theorem rm_minJ (l : Launch) (Z : State) (a0 : Array Value) (hw : ∀ d ∈ tables_1, d.before a0 Z = true) (q1 : Int64) (q2 : Int64) (h0 : Heap) (n0 : Nat) (Z0 : n0 ≤ h0.size) (y1 : q2.toInt < q1.toInt) :
    Con l Z (⟨"java/lang/Math", "min", "(JJ)J"⟩ : MethodName) jdk_29_method_70_code 4 (some .long) ({ frames := 0, cells := 0, slots := 0, locals := 0 } : Room) #[(.long q1), (.long q2)] h0 (fun v h L => v = some (.long q2) ∧ Fr n0 L ∧ h = h0) := by
  refine meet (y := (⟨"java/lang/Math", "min", "(JJ)J"⟩ : MethodName)) (Q := fun v h L => v = some (.long q2) ∧ Fr n0 L ∧ h = h0) (Jvm.Free.JP.mathPlain rfl (by decide +kernel)) (fun m => ef_rm_minJ m q1 q2) ?_
  intro p e s m below meth c T0 hx hby hml hZ hown hnm hret hlk X0 e0
  have N0 := Fr.nil n0
  refine g_lloadN X0 hx hby d8_0 (pc' := 1) rfl rfl ?_
  refine g_lloadN X0 hx hby d8_1 (pc' := 2) rfl rfl ?_
  refine g_lcmp X0 hx hby d8_2 (pc' := 3) rfl  ?_
  have hc3 : q2.toInt < q1.toInt := by omega
  refine g_ifYes X0 hx hby d8_3 (pc' := 10) (tlt (show (0 : Int32) < (lcmpW q1 q2) from (lw_gt q1 q2).mpr (Int64.lt_iff_toInt_lt.mpr hc3))).2.2.1 (by decide) (by decide) ?_
  refine g_lloadN X0 hx hby d8_10 (pc' := 11) rfl rfl ?_
  refine Go.retL X0 hx hlk hret (hb hby d8_11) (by decide) (by decide) ?_
  exact ⟨rfl, N0, e0⟩
theorem d11_0 : decode jdk_29_method_69_code 0 = .ok (.iload_n 0, 1) := by decide +kernel
theorem d11_1 : decode jdk_29_method_69_code 1 = .ok (.iload_n 1, 1) := by decide +kernel
theorem d11_2 : decode jdk_29_method_69_code 2 = .ok (.if_icmp .gt 7, 3) := by decide +kernel
theorem d11_5 : decode jdk_29_method_69_code 5 = .ok (.iload_n 0, 1) := by decide +kernel
theorem d11_6 : decode jdk_29_method_69_code 6 = .ok (.goto 4, 3) := by decide +kernel
theorem d11_10 : decode jdk_29_method_69_code 10 = .ok (.ireturn, 1) := by decide +kernel
theorem ef_rm_minI (m : MethodId) (x0 : Int32) (x1 : Int32) : entryFrame m #[(.int x0), (.int x1)] 2 = mkF m 0 #[.val (.int x0), .val (.int x1)] [] := by first | (simp [entryFrame, mkF, argsToLocals, Value.category]; done) | rfl
set_option maxRecDepth 65536 in
set_option maxHeartbeats 40000000 in
theorem rm_minI (l : Launch) (Z : State) (a0 : Array Value) (hw : ∀ d ∈ tables_1, d.before a0 Z = true) (i1 : Int32) (i2 : Int32) (h0 : Heap) (n0 : Nat) (Z0 : n0 ≤ h0.size) (y1 : i1.toInt ≤ i2.toInt) :
    Con l Z (⟨"java/lang/Math", "min", "(II)I"⟩ : MethodName) jdk_29_method_69_code 2 (some .int) ({ frames := 0, cells := 0, slots := 0, locals := 0 } : Room) #[(.int i1), (.int i2)] h0 (fun v h L => v = some (.int i1) ∧ Fr n0 L ∧ h = h0) := by
  refine meet (y := (⟨"java/lang/Math", "min", "(II)I"⟩ : MethodName)) (Q := fun v h L => v = some (.int i1) ∧ Fr n0 L ∧ h = h0) (Jvm.Free.JP.mathPlain rfl (by decide +kernel)) (fun m => ef_rm_minI m i1 i2) ?_
  intro p e s m below meth c T0 hx hby hml hZ hown hnm hret hlk X0 e0
  have N0 := Fr.nil n0
  refine g_iloadN X0 hx hby d11_0 (pc' := 1) rfl rfl ?_
  refine g_iloadN X0 hx hby d11_1 (pc' := 2) rfl rfl ?_
  have hc2 : ¬ (i2.toInt < i1.toInt) := by omega
  refine g_icmpNo X0 hx hby d11_2 (pc' := 5) (flt (show ¬ (i2 < i1) from fun q => hc2 (Int32.lt_iff_toInt_lt.mp q))).2.2.1 rfl ?_
  refine g_iloadN X0 hx hby d11_5 (pc' := 6) rfl rfl ?_
  refine g_goto X0 hx hby d11_6 (pc' := 10) (by decide) (by decide) ?_
  refine Go.retI X0 hx hlk hret (hb hby d11_10) (by decide) (by decide) ?_
  exact ⟨rfl, N0, e0⟩
theorem d6_0 : decode prog_6_method_2_code 0 = .ok (.iload_n 0, 1) := by decide +kernel
theorem d6_1 : decode prog_6_method_2_code 1 = .ok (.ldc 11, 2) := by decide +kernel
theorem d6_3 : decode prog_6_method_2_code 3 = .ok (.if_icmp .lt 13, 3) := by decide +kernel
theorem d6_16 : decode prog_6_method_2_code 16 = .ok (.ldc2_w 19, 3) := by decide +kernel
theorem d6_19 : decode prog_6_method_2_code 19 = .ok (.ldc2_w 21, 3) := by decide +kernel
theorem d6_22 : decode prog_6_method_2_code 22 = .ok (.ldc2_w 23, 3) := by decide +kernel
theorem d6_25 : decode prog_6_method_2_code 25 = .ok (.iload_n 0, 1) := by decide +kernel
theorem d6_26 : decode prog_6_method_2_code 26 = .ok (.i2l, 1) := by decide +kernel
theorem d6_27 : decode prog_6_method_2_code 27 = .ok (.lmul, 1) := by decide +kernel
theorem d6_28 : decode prog_6_method_2_code 28 = .ok (.invokestatic 25, 3) := by decide +kernel
theorem pd_aJJzJ : parseMethodDescriptor "(JJ)J" = some ⟨[.long, .long], some .long⟩ := by decide +kernel
theorem d6_31 : decode prog_6_method_2_code 31 = .ok (.invokestatic 31, 3) := by decide +kernel
theorem d6_34 : decode prog_6_method_2_code 34 = .ok (.l2i, 1) := by decide +kernel
theorem d6_35 : decode prog_6_method_2_code 35 = .ok (.ireturn, 1) := by decide +kernel
theorem ef_rm_next0 (m : MethodId)  : entryFrame m #[(.int (0 : Int32))] 1 = mkF m 0 #[.val (.int (0 : Int32))] [] := by first | (simp [entryFrame, mkF, argsToLocals, Value.category]; done) | rfl
theorem pn_com_example_edgewise_edgewise_Capacity : plainName "com/example/edgewise/edgewise/Capacity" = true := by first | (simp [plainName, overriddenIn]; done) | decide +kernel
set_option maxRecDepth 65536 in
set_option maxHeartbeats 40000000 in
theorem rm_next0 (l : Launch) (Z : State) (a0 : Array Value) (hw : ∀ d ∈ tables_1, d.before a0 Z = true)  (h0 : Heap) (n0 : Nat) (Z0 : n0 ≤ h0.size)  :
    Con l Z (⟨"com/example/edgewise/edgewise/Capacity", "next", "(I)I"⟩ : MethodName) prog_6_method_2_code 1 (some .int) ({ frames := 1, cells := 0, slots := 0, locals := 17 } : Room) #[(.int (0 : Int32))] h0 (fun v h L => v = some (.int (4 : Int32)) ∧ Fr n0 L ∧ h = h0) := by
  refine meet (y := (⟨"com/example/edgewise/edgewise/Capacity", "next", "(I)I"⟩ : MethodName)) (Q := fun v h L => v = some (.int (4 : Int32)) ∧ Fr n0 L ∧ h = h0) (plainFor_of_name pn_com_example_edgewise_edgewise_Capacity) (fun m => ef_rm_next0 m ) ?_
  intro p e s m below meth c T0 hx hby hml hZ hown hnm hret hlk X0 e0
  have N0 := Fr.nil n0
  refine g_iloadN X0 hx hby d6_0 (pc' := 1) rfl rfl ?_
  refine g_ldcI X0 hx hby hZ hown (wi hw 49 rfl) d6_1 (pc' := 3) rfl ?_
  have hc3 : (0 : Int) < (2147483639 : Int) := by decide
  refine g_icmpYes X0 hx hby d6_3 (pc' := 16) (tlt (show (0 : Int32) < (2147483639 : Int32) from Int32.lt_iff_toInt_lt.mpr hc3)).1 (by decide) (by decide) ?_
  refine g_ldcL X0 hx hby hZ hown (wi hw 50 rfl) d6_16 (pc' := 19) rfl ?_
  refine g_ldcL X0 hx hby hZ hown (wi hw 51 rfl) d6_19 (pc' := 22) rfl ?_
  refine g_ldcL X0 hx hby hZ hown (wi hw 52 rfl) d6_22 (pc' := 25) rfl ?_
  refine g_iloadN X0 hx hby d6_25 (pc' := 26) rfl rfl ?_
  refine g_i2l X0 hx hby d6_26 (pc' := 27) rfl (z := (0 : Int64)) rfl ?_
  refine g_lmul X0 hx hby d6_27 (pc' := 28) rfl (z := (0 : Int64)) rfl ?_
  refine Go.callS X0 hx hZ (y := (⟨"java/lang/Math", "max", "(JJ)J"⟩ : MethodName)) hown (wi hw 53 rfl) (wi hw 54 rfl) (wi hw 55 rfl) (wi hw 56 rfl) (by decide) e0 (argsL := [(.long (4 : Int64)), (.long (0 : Int64))]) (rest := [(.long (2147483639 : Int64))]) (W := 2) (rm_maxJ l Z a0 hw (4 : Int64) (0 : Int64) h0 n0 Z0 (by decide)) (hb hby d6_28) (by rw [hml]; rfl) rfl pd_aJJzJ rfl rfl (by decide) (by decide) (by decide) (by decide) ?_
  intro v1 T1 L1 X1 hQ1
  obtain ⟨rfl, Nq1, hh1⟩ := hQ1
  have N1 := Fr.app N0 Nq1
  show Go p.tables e below s _ _ _ (T1.setTop (mkF m 31 #[.val (.int (0 : Int32))] [(.long (4 : Int64)), (.long (2147483639 : Int64))]))
  refine Go.callS X1 hx hZ (y := (⟨"java/lang/Math", "min", "(JJ)J"⟩ : MethodName)) hown (wi hw 57 rfl) (wi hw 58 rfl) (wi hw 55 rfl) (wi hw 59 rfl) (by decide) hh1 (argsL := [(.long (2147483639 : Int64)), (.long (4 : Int64))]) (rest := []) (W := 0) (rm_minJ l Z a0 hw (2147483639 : Int64) (4 : Int64) h0 n0 Z0 (by decide)) (hb hby d6_31) (by rw [hml]; rfl) rfl pd_aJJzJ rfl rfl (by decide) (by decide) (by decide) (by decide) ?_
  intro v2 T2 L2 X2 hQ2
  obtain ⟨rfl, Nq2, hh2⟩ := hQ2
  have N2 := Fr.app N1 Nq2
  show Go p.tables e below s _ _ _ (T2.setTop (mkF m 34 #[.val (.int (0 : Int32))] [(.long (4 : Int64))]))
  refine g_l2i X2 hx hby d6_34 (pc' := 35) rfl (z := (4 : Int32)) rfl ?_
  refine Go.retI X2 hx hlk hret (hb hby d6_35) (by decide) (by decide) ?_
  exact ⟨rfl, N2, hh2⟩
theorem d10_0 : decode jdk_65_method_123_code 0 = .ok (.iload_n 1, 1) := by decide +kernel
theorem d10_1 : decode jdk_65_method_123_code 1 = .ok (.aload_n 0, 1) := by decide +kernel
theorem d10_2 : decode jdk_65_method_123_code 2 = .ok (.arraylength, 1) := by decide +kernel
theorem d10_3 : decode jdk_65_method_123_code 3 = .ok (.if_icmp .ne 11, 3) := by decide +kernel
theorem d10_14 : decode jdk_65_method_123_code 14 = .ok (.iload_n 1, 1) := by decide +kernel
theorem d10_15 : decode jdk_65_method_123_code 15 = .ok (.newarray .int, 2) := by decide +kernel
theorem d10_17 : decode jdk_65_method_123_code 17 = .ok (.astore_n 2, 1) := by decide +kernel
theorem d10_18 : decode jdk_65_method_123_code 18 = .ok (.aload_n 0, 1) := by decide +kernel
theorem d10_19 : decode jdk_65_method_123_code 19 = .ok (.iconst 0, 1) := by decide +kernel
theorem d10_20 : decode jdk_65_method_123_code 20 = .ok (.aload_n 2, 1) := by decide +kernel
theorem d10_21 : decode jdk_65_method_123_code 21 = .ok (.iconst 0, 1) := by decide +kernel
theorem d10_22 : decode jdk_65_method_123_code 22 = .ok (.aload_n 0, 1) := by decide +kernel
theorem d10_23 : decode jdk_65_method_123_code 23 = .ok (.arraylength, 1) := by decide +kernel
theorem d10_24 : decode jdk_65_method_123_code 24 = .ok (.iload_n 1, 1) := by decide +kernel
theorem d10_25 : decode jdk_65_method_123_code 25 = .ok (.invokestatic 304, 3) := by decide +kernel
theorem pd_aIIzI : parseMethodDescriptor "(II)I" = some ⟨[.int, .int], some .int⟩ := by decide +kernel
theorem d10_28 : decode jdk_65_method_123_code 28 = .ok (.invokestatic 150, 3) := by decide +kernel
theorem d10_31 : decode jdk_65_method_123_code 31 = .ok (.aload_n 2, 1) := by decide +kernel
theorem d10_32 : decode jdk_65_method_123_code 32 = .ok (.areturn, 1) := by decide +kernel
theorem ef_rm_copyI (m : MethodId) (x0 : Addr) : entryFrame m #[(.ref x0), (.int (4 : Int32))] 3 = mkF m 0 #[.val (.ref x0), .val (.int (4 : Int32)), .unset] [] := by first | (simp [entryFrame, mkF, argsToLocals, Value.category]; done) | rfl
theorem pn_java_util_Arrays : plainName "java/util/Arrays" = true := by first | (simp [plainName, overriddenIn]; done) | decide +kernel
set_option maxRecDepth 65536 in
set_option maxHeartbeats 40000000 in
theorem rm_copyI (l : Launch) (Z : State) (a0 : Array Value) (hw : ∀ d ∈ tables_1, d.before a0 Z = true) (x1 : Addr) (g1 : Nat → Int32) (h0 : Heap) (n0 : Nat) (Z0 : n0 ≤ h0.size) (P0 : ArF Z h0 x1 .int 0 (fun i => .int (g1 i))) :
    Con l Z (⟨"java/util/Arrays", "copyOf", "([II)[I"⟩ : MethodName) jdk_65_method_123_code 3 (some (.array .int)) ({ frames := 1, cells := 1, slots := 4, locals := 40 } : Room) #[(.ref x1), (.int (4 : Int32))] h0 (fun v h L => ∃ (b1 : Addr), v = some (.ref b1) ∧ Fr n0 L ∧ Keep h0 h [] ∧ n0 ≤ b1 ∧ h0.size ≤ b1 ∧ ArF Z h b1 .int 4 (fun i => .int ((fun _ => (0 : Int32)) i))) := by
  refine meet (y := (⟨"java/util/Arrays", "copyOf", "([II)[I"⟩ : MethodName)) (Q := fun v h L => ∃ (b1 : Addr), v = some (.ref b1) ∧ Fr n0 L ∧ Keep h0 h [] ∧ n0 ≤ b1 ∧ h0.size ≤ b1 ∧ ArF Z h b1 .int 4 (fun i => .int ((fun _ => (0 : Int32)) i))) (plainFor_of_name pn_java_util_Arrays) (fun m => ef_rm_copyI m x1) ?_
  intro p e s m below meth c T0 hx hby hml hZ hown hnm hret hlk X0 e0
  have N0 := Fr.nil n0
  have K0 := Keep.refl h0 []
  refine g_iloadN X0 hx hby d10_0 (pc' := 1) rfl rfl ?_
  refine g_aloadN X0 hx hby d10_1 (pc' := 2) rfl rfl rfl ?_
  refine Go.alen X0 hx hZ e0 P0 (hb hby d10_2) ?_
  show Go p.tables e below s _ _ _ (T0.setTop (mkF m 3 #[.val (.ref x1), .val (.int (4 : Int32)), .unset] [(.int (0 : Int32)), (.int (4 : Int32))]))
  have hc3 : ¬ ((4 : Int) = (0 : Int)) := by decide
  refine g_icmpYes X0 hx hby d10_3 (pc' := 14) (feq (show ¬ ((4 : Int32) = (0 : Int32)) from fun q => hc3 (congrArg Int32.toInt q))).2 (by decide) (by decide) ?_
  refine g_iloadN X0 hx hby d10_14 (pc' := 15) rfl rfl ?_
  refine Go.newarr X0 hx hZ (n := 4) (cap := 4) (ty := .int) rfl (wi hw 10 rfl) e0 (by decide) rfl (by decide) (by decide) (by decide) (by decide) (hb hby d10_15) ?_
  intro T1 h1 b1 X1 e1 E1 hb1 V1
  have g2 : n0 ≤ b1 := by rw [hb1]; exact Z0
  have s3 : h0.size ≤ b1 := by rw [hb1]; exact K0.1
  have V4 : ArF Z h1 b1 .int 4 (fun i => .int ((fun _ => (0 : Int32)) i)) := V1
  show Go p.tables e below s _ _ _ (T1.setTop (mkF m 17 #[.val (.ref x1), .val (.int (4 : Int32)), .unset] [(.ref b1)]))
  refine g_astoreN X1 hx hby d10_17 (pc' := 18) rfl rfl (L' := #[.val (.ref x1), .val (.int (4 : Int32)), .val (.ref b1)]) rfl ?_
  refine g_aloadN X1 hx hby d10_18 (pc' := 19) rfl rfl rfl ?_
  refine g_iconst X1 hx hby d10_19 (pc' := 20) rfl (z := (0 : Int32)) rfl ?_
  refine g_aloadN X1 hx hby d10_20 (pc' := 21) rfl rfl rfl ?_
  refine g_iconst X1 hx hby d10_21 (pc' := 22) rfl (z := (0 : Int32)) rfl ?_
  refine g_aloadN X1 hx hby d10_22 (pc' := 23) rfl rfl rfl ?_
  have f5 := P0.ext E1
  refine Go.alen X1 hx hZ e1 f5 (hb hby d10_23) ?_
  show Go p.tables e below s _ _ _ (T1.setTop (mkF m 24 #[.val (.ref x1), .val (.int (4 : Int32)), .val (.ref b1)] [(.int (0 : Int32)), (.int (0 : Int32)), (.ref b1), (.int (0 : Int32)), (.ref x1)]))
  refine g_iloadN X1 hx hby d10_24 (pc' := 25) rfl rfl ?_
  refine Go.callS X1 hx hZ (y := (⟨"java/lang/Math", "min", "(II)I"⟩ : MethodName)) hown (wi hw 68 rfl) (wi hw 69 rfl) (wi hw 55 rfl) (wi hw 70 rfl) (by decide) e1 (argsL := [(.int (0 : Int32)), (.int (4 : Int32))]) (rest := [(.int (0 : Int32)), (.ref b1), (.int (0 : Int32)), (.ref x1)]) (W := 4) (rm_minI l Z a0 hw (0 : Int32) (4 : Int32) h1 n0 (Nat.le_trans Z0 E1.1) (by decide)) (hb hby d10_25) (by rw [hml]; rfl) rfl pd_aIIzI rfl rfl (by decide) (by decide) (by decide) (by decide) ?_
  intro v6 T6 L6 X6 hQ6
  obtain ⟨rfl, Nq6, hh6⟩ := hQ6
  have N6 := Fr.app N0 Nq6
  show Go p.tables e below s _ _ _ (T6.setTop (mkF m 28 #[.val (.ref x1), .val (.int (4 : Int32)), .val (.ref b1)] [(.int (0 : Int32)), (.int (0 : Int32)), (.ref b1), (.int (0 : Int32)), (.ref x1)]))
  refine Go.arraycopy X6 hx hZ hown (wi hw 71 rfl) (wi hw 74 rfl) (wi hw 72 rfl) (wi hw 73 rfl) hh6 f5 V4 rfl (ks := 0) (kd := 0) (kn := 0) rfl rfl rfl (by decide) (by decide) N6 g2 (by rw [hml]; rfl) (hb hby d10_28) (by decide) (W := 0) rfl (by decide) ?_
  intro T7 h7 L7 X7 e7 N7 K7 V7
  show Go p.tables e below s _ _ _ (T7.setTop (mkF m 31 #[.val (.ref x1), .val (.int (4 : Int32)), .val (.ref b1)] []))
  refine g_aloadN X7 hx hby d10_31 (pc' := 32) rfl rfl rfl ?_
  refine Go.retA X7 hx hlk hret rfl rfl (hb hby d10_32) (by decide) (by decide) ?_
  have VC : ArF Z h7 b1 .int 4 (fun i => .int ((fun _ => (0 : Int32)) i)) := (V7.cpI).congr (fun i hi => by simp [cpT])
  rw [e7]
  exact ⟨b1, rfl, N7, ((K0.ext E1).trans K7 (allS (Or.inr s3) all0)), g2, s3, VC⟩
theorem d12_0 : decode jdk_65_method_127_code 0 = .ok (.iload_n 1, 1) := by decide +kernel
theorem d12_1 : decode jdk_65_method_127_code 1 = .ok (.aload_n 0, 1) := by decide +kernel
theorem d12_2 : decode jdk_65_method_127_code 2 = .ok (.arraylength, 1) := by decide +kernel
theorem d12_3 : decode jdk_65_method_127_code 3 = .ok (.if_icmp .ne 11, 3) := by decide +kernel
theorem d12_14 : decode jdk_65_method_127_code 14 = .ok (.iload_n 1, 1) := by decide +kernel
theorem d12_15 : decode jdk_65_method_127_code 15 = .ok (.newarray .double, 2) := by decide +kernel
theorem d12_17 : decode jdk_65_method_127_code 17 = .ok (.astore_n 2, 1) := by decide +kernel
theorem d12_18 : decode jdk_65_method_127_code 18 = .ok (.aload_n 0, 1) := by decide +kernel
theorem d12_19 : decode jdk_65_method_127_code 19 = .ok (.iconst 0, 1) := by decide +kernel
theorem d12_20 : decode jdk_65_method_127_code 20 = .ok (.aload_n 2, 1) := by decide +kernel
theorem d12_21 : decode jdk_65_method_127_code 21 = .ok (.iconst 0, 1) := by decide +kernel
theorem d12_22 : decode jdk_65_method_127_code 22 = .ok (.aload_n 0, 1) := by decide +kernel
theorem d12_23 : decode jdk_65_method_127_code 23 = .ok (.arraylength, 1) := by decide +kernel
theorem d12_24 : decode jdk_65_method_127_code 24 = .ok (.iload_n 1, 1) := by decide +kernel
theorem d12_25 : decode jdk_65_method_127_code 25 = .ok (.invokestatic 304, 3) := by decide +kernel
theorem d12_28 : decode jdk_65_method_127_code 28 = .ok (.invokestatic 150, 3) := by decide +kernel
theorem d12_31 : decode jdk_65_method_127_code 31 = .ok (.aload_n 2, 1) := by decide +kernel
theorem d12_32 : decode jdk_65_method_127_code 32 = .ok (.areturn, 1) := by decide +kernel
theorem ef_rm_copyD (m : MethodId) (x0 : Addr) : entryFrame m #[(.ref x0), (.int (4 : Int32))] 3 = mkF m 0 #[.val (.ref x0), .val (.int (4 : Int32)), .unset] [] := by first | (simp [entryFrame, mkF, argsToLocals, Value.category]; done) | rfl
set_option maxRecDepth 65536 in
set_option maxHeartbeats 40000000 in
theorem rm_copyD (l : Launch) (Z : State) (a0 : Array Value) (hw : ∀ d ∈ tables_1, d.before a0 Z = true) (x1 : Addr) (g1 : Nat → UInt64) (h0 : Heap) (n0 : Nat) (Z0 : n0 ≤ h0.size) (P0 : ArF Z h0 x1 .double 0 (fun i => .double (g1 i))) :
    Con l Z (⟨"java/util/Arrays", "copyOf", "([DI)[D"⟩ : MethodName) jdk_65_method_127_code 3 (some (.array .double)) ({ frames := 1, cells := 1, slots := 4, locals := 40 } : Room) #[(.ref x1), (.int (4 : Int32))] h0 (fun v h L => ∃ (b1 : Addr), v = some (.ref b1) ∧ Fr n0 L ∧ Keep h0 h [] ∧ n0 ≤ b1 ∧ h0.size ≤ b1 ∧ ArF Z h b1 .double 4 (fun i => .double ((fun _ => (0 : UInt64)) i))) := by
  refine meet (y := (⟨"java/util/Arrays", "copyOf", "([DI)[D"⟩ : MethodName)) (Q := fun v h L => ∃ (b1 : Addr), v = some (.ref b1) ∧ Fr n0 L ∧ Keep h0 h [] ∧ n0 ≤ b1 ∧ h0.size ≤ b1 ∧ ArF Z h b1 .double 4 (fun i => .double ((fun _ => (0 : UInt64)) i))) (plainFor_of_name pn_java_util_Arrays) (fun m => ef_rm_copyD m x1) ?_
  intro p e s m below meth c T0 hx hby hml hZ hown hnm hret hlk X0 e0
  have N0 := Fr.nil n0
  have K0 := Keep.refl h0 []
  refine g_iloadN X0 hx hby d12_0 (pc' := 1) rfl rfl ?_
  refine g_aloadN X0 hx hby d12_1 (pc' := 2) rfl rfl rfl ?_
  refine Go.alen X0 hx hZ e0 P0 (hb hby d12_2) ?_
  show Go p.tables e below s _ _ _ (T0.setTop (mkF m 3 #[.val (.ref x1), .val (.int (4 : Int32)), .unset] [(.int (0 : Int32)), (.int (4 : Int32))]))
  have hc3 : ¬ ((4 : Int) = (0 : Int)) := by decide
  refine g_icmpYes X0 hx hby d12_3 (pc' := 14) (feq (show ¬ ((4 : Int32) = (0 : Int32)) from fun q => hc3 (congrArg Int32.toInt q))).2 (by decide) (by decide) ?_
  refine g_iloadN X0 hx hby d12_14 (pc' := 15) rfl rfl ?_
  refine Go.newarr X0 hx hZ (n := 4) (cap := 4) (ty := .double) rfl (wi hw 19 rfl) e0 (by decide) rfl (by decide) (by decide) (by decide) (by decide) (hb hby d12_15) ?_
  intro T1 h1 b1 X1 e1 E1 hb1 V1
  have g2 : n0 ≤ b1 := by rw [hb1]; exact Z0
  have s3 : h0.size ≤ b1 := by rw [hb1]; exact K0.1
  have V4 : ArF Z h1 b1 .double 4 (fun i => .double ((fun _ => (0 : UInt64)) i)) := V1
  show Go p.tables e below s _ _ _ (T1.setTop (mkF m 17 #[.val (.ref x1), .val (.int (4 : Int32)), .unset] [(.ref b1)]))
  refine g_astoreN X1 hx hby d12_17 (pc' := 18) rfl rfl (L' := #[.val (.ref x1), .val (.int (4 : Int32)), .val (.ref b1)]) rfl ?_
  refine g_aloadN X1 hx hby d12_18 (pc' := 19) rfl rfl rfl ?_
  refine g_iconst X1 hx hby d12_19 (pc' := 20) rfl (z := (0 : Int32)) rfl ?_
  refine g_aloadN X1 hx hby d12_20 (pc' := 21) rfl rfl rfl ?_
  refine g_iconst X1 hx hby d12_21 (pc' := 22) rfl (z := (0 : Int32)) rfl ?_
  refine g_aloadN X1 hx hby d12_22 (pc' := 23) rfl rfl rfl ?_
  have f5 := P0.ext E1
  refine Go.alen X1 hx hZ e1 f5 (hb hby d12_23) ?_
  show Go p.tables e below s _ _ _ (T1.setTop (mkF m 24 #[.val (.ref x1), .val (.int (4 : Int32)), .val (.ref b1)] [(.int (0 : Int32)), (.int (0 : Int32)), (.ref b1), (.int (0 : Int32)), (.ref x1)]))
  refine g_iloadN X1 hx hby d12_24 (pc' := 25) rfl rfl ?_
  refine Go.callS X1 hx hZ (y := (⟨"java/lang/Math", "min", "(II)I"⟩ : MethodName)) hown (wi hw 68 rfl) (wi hw 69 rfl) (wi hw 55 rfl) (wi hw 70 rfl) (by decide) e1 (argsL := [(.int (0 : Int32)), (.int (4 : Int32))]) (rest := [(.int (0 : Int32)), (.ref b1), (.int (0 : Int32)), (.ref x1)]) (W := 4) (rm_minI l Z a0 hw (0 : Int32) (4 : Int32) h1 n0 (Nat.le_trans Z0 E1.1) (by decide)) (hb hby d12_25) (by rw [hml]; rfl) rfl pd_aIIzI rfl rfl (by decide) (by decide) (by decide) (by decide) ?_
  intro v6 T6 L6 X6 hQ6
  obtain ⟨rfl, Nq6, hh6⟩ := hQ6
  have N6 := Fr.app N0 Nq6
  show Go p.tables e below s _ _ _ (T6.setTop (mkF m 28 #[.val (.ref x1), .val (.int (4 : Int32)), .val (.ref b1)] [(.int (0 : Int32)), (.int (0 : Int32)), (.ref b1), (.int (0 : Int32)), (.ref x1)]))
  refine Go.arraycopy X6 hx hZ hown (wi hw 71 rfl) (wi hw 74 rfl) (wi hw 72 rfl) (wi hw 73 rfl) hh6 f5 V4 rfl (ks := 0) (kd := 0) (kn := 0) rfl rfl rfl (by decide) (by decide) N6 g2 (by rw [hml]; rfl) (hb hby d12_28) (by decide) (W := 0) rfl (by decide) ?_
  intro T7 h7 L7 X7 e7 N7 K7 V7
  show Go p.tables e below s _ _ _ (T7.setTop (mkF m 31 #[.val (.ref x1), .val (.int (4 : Int32)), .val (.ref b1)] []))
  refine g_aloadN X7 hx hby d12_31 (pc' := 32) rfl rfl rfl ?_
  refine Go.retA X7 hx hlk hret rfl rfl (hb hby d12_32) (by decide) (by decide) ?_
  have VC : ArF Z h7 b1 .double 4 (fun i => .double ((fun _ => (0 : UInt64)) i)) := (V7.cpD).congr (fun i hi => by simp [cpT])
  rw [e7]
  exact ⟨b1, rfl, N7, ((K0.ext E1).trans K7 (allS (Or.inr s3) all0)), g2, s3, VC⟩
theorem d9_0 : decode prog_12_method_22_code 0 = .ok (.aload_n 0, 1) := by decide +kernel
theorem d9_1 : decode prog_12_method_22_code 1 = .ok (.aload_n 0, 1) := by decide +kernel
theorem d9_2 : decode prog_12_method_22_code 2 = .ok (.getfield 7, 3) := by decide +kernel
theorem d9_5 : decode prog_12_method_22_code 5 = .ok (.iload_n 1, 1) := by decide +kernel
theorem d9_6 : decode prog_12_method_22_code 6 = .ok (.invokestatic 87, 3) := by decide +kernel
theorem pd_ayIIzyI : parseMethodDescriptor "([II)[I" = some ⟨[(.array .int), .int], some (.array .int)⟩ := by decide +kernel
theorem d9_9 : decode prog_12_method_22_code 9 = .ok (.putfield 7, 3) := by decide +kernel
theorem d9_12 : decode prog_12_method_22_code 12 = .ok (.aload_n 0, 1) := by decide +kernel
theorem d9_13 : decode prog_12_method_22_code 13 = .ok (.aload_n 0, 1) := by decide +kernel
theorem d9_14 : decode prog_12_method_22_code 14 = .ok (.getfield 13, 3) := by decide +kernel
theorem d9_17 : decode prog_12_method_22_code 17 = .ok (.iload_n 1, 1) := by decide +kernel
theorem d9_18 : decode prog_12_method_22_code 18 = .ok (.invokestatic 87, 3) := by decide +kernel
theorem d9_21 : decode prog_12_method_22_code 21 = .ok (.putfield 13, 3) := by decide +kernel
theorem d9_24 : decode prog_12_method_22_code 24 = .ok (.aload_n 0, 1) := by decide +kernel
theorem d9_25 : decode prog_12_method_22_code 25 = .ok (.aload_n 0, 1) := by decide +kernel
theorem d9_26 : decode prog_12_method_22_code 26 = .ok (.getfield 16, 3) := by decide +kernel
theorem d9_29 : decode prog_12_method_22_code 29 = .ok (.iload_n 1, 1) := by decide +kernel
theorem d9_30 : decode prog_12_method_22_code 30 = .ok (.invokestatic 87, 3) := by decide +kernel
theorem d9_33 : decode prog_12_method_22_code 33 = .ok (.putfield 16, 3) := by decide +kernel
theorem d9_36 : decode prog_12_method_22_code 36 = .ok (.aload_n 0, 1) := by decide +kernel
theorem d9_37 : decode prog_12_method_22_code 37 = .ok (.aload_n 0, 1) := by decide +kernel
theorem d9_38 : decode prog_12_method_22_code 38 = .ok (.getfield 19, 3) := by decide +kernel
theorem d9_41 : decode prog_12_method_22_code 41 = .ok (.iload_n 1, 1) := by decide +kernel
theorem d9_42 : decode prog_12_method_22_code 42 = .ok (.invokestatic 87, 3) := by decide +kernel
theorem d9_45 : decode prog_12_method_22_code 45 = .ok (.putfield 19, 3) := by decide +kernel
theorem d9_48 : decode prog_12_method_22_code 48 = .ok (.aload_n 0, 1) := by decide +kernel
theorem d9_49 : decode prog_12_method_22_code 49 = .ok (.aload_n 0, 1) := by decide +kernel
theorem d9_50 : decode prog_12_method_22_code 50 = .ok (.getfield 22, 3) := by decide +kernel
theorem d9_53 : decode prog_12_method_22_code 53 = .ok (.iload_n 1, 1) := by decide +kernel
theorem d9_54 : decode prog_12_method_22_code 54 = .ok (.invokestatic 91, 3) := by decide +kernel
theorem pd_ayDIzyD : parseMethodDescriptor "([DI)[D" = some ⟨[(.array .double), .int], some (.array .double)⟩ := by decide +kernel
theorem d9_57 : decode prog_12_method_22_code 57 = .ok (.putfield 22, 3) := by decide +kernel
theorem d9_60 : decode prog_12_method_22_code 60 = .ok (.aload_n 0, 1) := by decide +kernel
theorem d9_61 : decode prog_12_method_22_code 61 = .ok (.getfield 33, 3) := by decide +kernel
theorem d9_64 : decode prog_12_method_22_code 64 = .ok (.ifCond .eq 15, 3) := by decide +kernel
theorem d9_79 : decode prog_12_method_22_code 79 = .ok (.return_, 1) := by decide +kernel
theorem ef_rm_resize0 (m : MethodId) (x0 : Addr) : entryFrame m #[(.ref x0), (.int (4 : Int32))] 2 = mkF m 0 #[.val (.ref x0), .val (.int (4 : Int32))] [] := by first | (simp [entryFrame, mkF, argsToLocals, Value.category]; done) | rfl
set_option maxRecDepth 65536 in
set_option maxHeartbeats 40000000 in
theorem rm_resize0 (l : Launch) (Z : State) (a0 : Array Value) (hw : ∀ d ∈ tables_1, d.before a0 Z = true) (a1 : Addr) (x1 : Addr) (x2 : Addr) (x3 : Addr) (x4 : Addr) (x5 : Addr) (x6 : Addr) (x7 : Addr) (g1 : Nat → Int32) (g2 : Nat → Int32) (g3 : Nat → Int32) (g4 : Nat → Int32) (g5 : Nat → UInt64) (g6 : Nat → Int32) (t1 : Int32) (t2 : Int32) (u1 : Int64) (h0 : Heap) (n0 : Nat) (Z0 : n0 ≤ h0.size) (P0 : Exa Z h0 a1 "com/example/edgewise/edgewise/EdgeSlots") (P1 : Fld Z h0 a1 "com/example/edgewise/edgewise/EdgeSlots" "keyed" "Z" (.int (0 : Int32))) (P2 : Fld Z h0 a1 "com/example/edgewise/edgewise/EdgeSlots" "keptNumbers" "[J" (.ref x7)) (P3 : Fld Z h0 a1 "com/example/edgewise/edgewise/EdgeSlots" "sources" "[I" (.ref x1)) (P4 : Fld Z h0 a1 "com/example/edgewise/edgewise/EdgeSlots" "targets" "[I" (.ref x2)) (P5 : Fld Z h0 a1 "com/example/edgewise/edgewise/EdgeSlots" "sourcePositions" "[I" (.ref x3)) (P6 : Fld Z h0 a1 "com/example/edgewise/edgewise/EdgeSlots" "targetPositions" "[I" (.ref x4)) (P7 : Fld Z h0 a1 "com/example/edgewise/edgewise/EdgeSlots" "weights" "[D" (.ref x5)) (P8 : Fld Z h0 a1 "com/example/edgewise/edgewise/EdgeSlots" "keys" "[I" (.ref x6)) (P9 : ArF Z h0 x1 .int 0 (fun i => .int (g1 i))) (P10 : ArF Z h0 x2 .int 0 (fun i => .int (g2 i))) (P11 : ArF Z h0 x3 .int 0 (fun i => .int (g3 i))) (P12 : ArF Z h0 x4 .int 0 (fun i => .int (g4 i))) (P13 : ArF Z h0 x5 .double 0 (fun i => .double (g5 i))) (P14 : ArF Z h0 x6 .int 0 (fun i => .int (g6 i))) (P15 : Fld Z h0 a1 "com/example/edgewise/edgewise/EdgeSlots" "bound" "I" (.int t1)) (P16 : Fld Z h0 a1 "com/example/edgewise/edgewise/EdgeSlots" "count" "I" (.int t2)) (P17 : Fld Z h0 a1 "com/example/edgewise/edgewise/EdgeSlots" "nextNumber" "J" (.long u1)) (ne_x1_a1 : x1 ≠ a1) (ne_x2_a1 : x2 ≠ a1) (ne_x3_a1 : x3 ≠ a1) (ne_x4_a1 : x4 ≠ a1) (ne_x5_a1 : x5 ≠ a1) (ne_x6_a1 : x6 ≠ a1) (ge_a1 : n0 ≤ a1) :
    Con l Z (⟨"com/example/edgewise/edgewise/EdgeSlots", "resize", "(I)V"⟩ : MethodName) prog_12_method_22_code 2 none ({ frames := 2, cells := 5, slots := 20, locals := 55 } : Room) #[(.ref a1), (.int (4 : Int32))] h0 (fun v h L => ∃ (b1 : Addr) (b2 : Addr) (b3 : Addr) (b4 : Addr) (b5 : Addr), v = none ∧ Fr n0 L ∧ Keep h0 h [a1] ∧ n0 ≤ b1 ∧ h0.size ≤ b1 ∧ n0 ≤ b2 ∧ h0.size ≤ b2 ∧ n0 ≤ b3 ∧ h0.size ≤ b3 ∧ n0 ≤ b4 ∧ h0.size ≤ b4 ∧ n0 ≤ b5 ∧ h0.size ≤ b5 ∧ b1 ≠ b2 ∧ b1 ≠ b3 ∧ b1 ≠ b4 ∧ b1 ≠ b5 ∧ b2 ≠ b3 ∧ b2 ≠ b4 ∧ b2 ≠ b5 ∧ b3 ≠ b4 ∧ b3 ≠ b5 ∧ b4 ≠ b5 ∧ Fld Z h a1 "com/example/edgewise/edgewise/EdgeSlots" "keyed" "Z" (.int (0 : Int32)) ∧ Fld Z h a1 "com/example/edgewise/edgewise/EdgeSlots" "keptNumbers" "[J" (.ref x7) ∧ Fld Z h a1 "com/example/edgewise/edgewise/EdgeSlots" "sources" "[I" (.ref b1) ∧ Fld Z h a1 "com/example/edgewise/edgewise/EdgeSlots" "targets" "[I" (.ref b2) ∧ Fld Z h a1 "com/example/edgewise/edgewise/EdgeSlots" "sourcePositions" "[I" (.ref b3) ∧ Fld Z h a1 "com/example/edgewise/edgewise/EdgeSlots" "targetPositions" "[I" (.ref b4) ∧ Fld Z h a1 "com/example/edgewise/edgewise/EdgeSlots" "weights" "[D" (.ref b5) ∧ Fld Z h a1 "com/example/edgewise/edgewise/EdgeSlots" "keys" "[I" (.ref x6) ∧ Fld Z h a1 "com/example/edgewise/edgewise/EdgeSlots" "bound" "I" (.int t1) ∧ Fld Z h a1 "com/example/edgewise/edgewise/EdgeSlots" "count" "I" (.int t2) ∧ Fld Z h a1 "com/example/edgewise/edgewise/EdgeSlots" "nextNumber" "J" (.long u1) ∧ ArF Z h b1 .int 4 (fun i => .int ((fun _ => (0 : Int32)) i)) ∧ ArF Z h b2 .int 4 (fun i => .int ((fun _ => (0 : Int32)) i)) ∧ ArF Z h b3 .int 4 (fun i => .int ((fun _ => (0 : Int32)) i)) ∧ ArF Z h b4 .int 4 (fun i => .int ((fun _ => (0 : Int32)) i)) ∧ ArF Z h b5 .double 4 (fun i => .double ((fun _ => (0 : UInt64)) i))) := by
  refine meet (y := (⟨"com/example/edgewise/edgewise/EdgeSlots", "resize", "(I)V"⟩ : MethodName)) (Q := fun v h L => ∃ (b1 : Addr) (b2 : Addr) (b3 : Addr) (b4 : Addr) (b5 : Addr), v = none ∧ Fr n0 L ∧ Keep h0 h [a1] ∧ n0 ≤ b1 ∧ h0.size ≤ b1 ∧ n0 ≤ b2 ∧ h0.size ≤ b2 ∧ n0 ≤ b3 ∧ h0.size ≤ b3 ∧ n0 ≤ b4 ∧ h0.size ≤ b4 ∧ n0 ≤ b5 ∧ h0.size ≤ b5 ∧ b1 ≠ b2 ∧ b1 ≠ b3 ∧ b1 ≠ b4 ∧ b1 ≠ b5 ∧ b2 ≠ b3 ∧ b2 ≠ b4 ∧ b2 ≠ b5 ∧ b3 ≠ b4 ∧ b3 ≠ b5 ∧ b4 ≠ b5 ∧ Fld Z h a1 "com/example/edgewise/edgewise/EdgeSlots" "keyed" "Z" (.int (0 : Int32)) ∧ Fld Z h a1 "com/example/edgewise/edgewise/EdgeSlots" "keptNumbers" "[J" (.ref x7) ∧ Fld Z h a1 "com/example/edgewise/edgewise/EdgeSlots" "sources" "[I" (.ref b1) ∧ Fld Z h a1 "com/example/edgewise/edgewise/EdgeSlots" "targets" "[I" (.ref b2) ∧ Fld Z h a1 "com/example/edgewise/edgewise/EdgeSlots" "sourcePositions" "[I" (.ref b3) ∧ Fld Z h a1 "com/example/edgewise/edgewise/EdgeSlots" "targetPositions" "[I" (.ref b4) ∧ Fld Z h a1 "com/example/edgewise/edgewise/EdgeSlots" "weights" "[D" (.ref b5) ∧ Fld Z h a1 "com/example/edgewise/edgewise/EdgeSlots" "keys" "[I" (.ref x6) ∧ Fld Z h a1 "com/example/edgewise/edgewise/EdgeSlots" "bound" "I" (.int t1) ∧ Fld Z h a1 "com/example/edgewise/edgewise/EdgeSlots" "count" "I" (.int t2) ∧ Fld Z h a1 "com/example/edgewise/edgewise/EdgeSlots" "nextNumber" "J" (.long u1) ∧ ArF Z h b1 .int 4 (fun i => .int ((fun _ => (0 : Int32)) i)) ∧ ArF Z h b2 .int 4 (fun i => .int ((fun _ => (0 : Int32)) i)) ∧ ArF Z h b3 .int 4 (fun i => .int ((fun _ => (0 : Int32)) i)) ∧ ArF Z h b4 .int 4 (fun i => .int ((fun _ => (0 : Int32)) i)) ∧ ArF Z h b5 .double 4 (fun i => .double ((fun _ => (0 : UInt64)) i))) (plainFor_of_name pn_com_example_edgewise_edgewise_EdgeSlots) (fun m => ef_rm_resize0 m a1) ?_
  intro p e s m below meth c T0 hx hby hml hZ hown hnm hret hlk X0 e0
  have N0 := Fr.nil n0
  have K0 := Keep.refl h0 [a1]
  refine g_aloadN X0 hx hby d9_0 (pc' := 1) rfl rfl rfl ?_
  refine g_aloadN X0 hx hby d9_1 (pc' := 2) rfl rfl rfl ?_
  refine g_getf X0 hx hby hZ hown (host := "") (Or.inl (wi hw 11 rfl)) Via.refl e0 P3 d9_2 (pc' := 5) rfl ?_
  intro T1 X1 e1
  refine g_iloadN X1 hx hby d9_5 (pc' := 6) rfl rfl ?_
  refine Go.callS X1 hx hZ (y := (⟨"java/util/Arrays", "copyOf", "([II)[I"⟩ : MethodName)) hown (wi hw 64 rfl) (wi hw 65 rfl) (wi hw 66 rfl) (wi hw 67 rfl) (by decide) e1 (argsL := [(.ref x1), (.int (4 : Int32))]) (rest := [(.ref a1)]) (W := 1) (rm_copyI l Z a0 hw x1 g1 h0 n0 Z0 P9) (hb hby d9_6) (by rw [hml]; rfl) rfl pd_ayIIzyI rfl rfl (by decide) (by decide) (by decide) (by decide) ?_
  intro v2 T2 L2 X2 hQ2
  obtain ⟨h2, e2⟩ : ∃ z, T2.heap = z := ⟨_, rfl⟩
  rw [e2] at hQ2
  obtain ⟨b1_2, rfl, Nq2, Kq2, gqb1_2, sqb1_2, Fq0_2⟩ := hQ2
  have N2 := Fr.app N0 Nq2
  have s3 : h0.size ≤ b1_2 := Nat.le_trans K0.1 sqb1_2
  show Go p.tables e below s _ _ _ (T2.setTop (mkF m 9 #[.val (.ref a1), .val (.int (4 : Int32))] [(.ref b1_2), (.ref a1)]))
  have f4 := P3.keep Kq2 nin0
  have f5 := P0.keep Kq2
  refine g_putf X2 hx hby hZ hown (host := "") (Or.inl (wi hw 11 rfl)) Via.refl e2 f4 f5 (Or.inl (wi hw 12 rfl)) (wi hw 2 rfl) (ty := (.array .int)) (by decide) rfl rfl d9_9 (pc' := 12) rfl ?_
  intro T6 h6 X6 e6 W6 F6
  refine g_aloadN X6 hx hby d9_12 (pc' := 13) rfl rfl rfl ?_
  refine g_aloadN X6 hx hby d9_13 (pc' := 14) rfl rfl rfl ?_
  have f7 := ((P4.keep Kq2 nin0).other W6 (Or.inr (slot_ne (Or.inl (wi hw 14 rfl)) (Or.inl (wi hw 12 rfl)) (by decide) (t := (.array .int)) (t' := (.array .int)) (by decide) (by decide))))
  refine g_getf X6 hx hby hZ hown (host := "") (Or.inl (wi hw 13 rfl)) Via.refl e6 f7 d9_14 (pc' := 17) rfl ?_
  intro T8 X8 e8
  refine g_iloadN X8 hx hby d9_17 (pc' := 18) rfl rfl ?_
  have f10 := ((P10.keep Kq2 nin0).other W6 ne_x2_a1)
  refine Go.callS X8 hx hZ (y := (⟨"java/util/Arrays", "copyOf", "([II)[I"⟩ : MethodName)) hown (wi hw 64 rfl) (wi hw 65 rfl) (wi hw 66 rfl) (wi hw 67 rfl) (by decide) e8 (argsL := [(.ref x2), (.int (4 : Int32))]) (rest := [(.ref a1)]) (W := 1) (rm_copyI l Z a0 hw x2 g2 h6 n0 (Nat.le_trans (Nat.le_trans Z0 Kq2.1) (Nat.le_of_eq (Wr.size W6).symm)) f10) (hb hby d9_18) (by rw [hml]; rfl) rfl pd_ayIIzyI rfl rfl (by decide) (by decide) (by decide) (by decide) ?_
  intro v9 T9 L9 X9 hQ9
  obtain ⟨h9, e9⟩ : ∃ z, T9.heap = z := ⟨_, rfl⟩
  rw [e9] at hQ9
  obtain ⟨b1_9, rfl, Nq9, Kq9, gqb1_9, sqb1_9, Fq0_9⟩ := hQ9
  have N9 := Fr.app (Fr.snoc X6 N2 ge_a1) Nq9
  have s11 : h0.size ≤ b1_9 := Nat.le_trans ((K0.trans Kq2 all0).wr W6 (Or.inl (List.mem_of_getElem? (i := 0) rfl))).1 sqb1_9
  show Go p.tables e below s _ _ _ (T9.setTop (mkF m 21 #[.val (.ref a1), .val (.int (4 : Int32))] [(.ref b1_9), (.ref a1)]))
  have f12 := f7.keep Kq9 nin0
  have f13 := ((f5.wr W6).keep Kq9)
  refine g_putf X9 hx hby hZ hown (host := "") (Or.inl (wi hw 13 rfl)) Via.refl e9 f12 f13 (Or.inl (wi hw 14 rfl)) (wi hw 2 rfl) (ty := (.array .int)) (by decide) rfl rfl d9_21 (pc' := 24) rfl ?_
  intro T14 h14 X14 e14 W14 F14
  refine g_aloadN X14 hx hby d9_24 (pc' := 25) rfl rfl rfl ?_
  refine g_aloadN X14 hx hby d9_25 (pc' := 26) rfl rfl rfl ?_
  have f15 := ((((P5.keep Kq2 nin0).other W6 (Or.inr (slot_ne (Or.inl (wi hw 16 rfl)) (Or.inl (wi hw 12 rfl)) (by decide) (t := (.array .int)) (t' := (.array .int)) (by decide) (by decide)))).keep Kq9 nin0).other W14 (Or.inr (slot_ne (Or.inl (wi hw 16 rfl)) (Or.inl (wi hw 14 rfl)) (by decide) (t := (.array .int)) (t' := (.array .int)) (by decide) (by decide))))
  refine g_getf X14 hx hby hZ hown (host := "") (Or.inl (wi hw 15 rfl)) Via.refl e14 f15 d9_26 (pc' := 29) rfl ?_
  intro T16 X16 e16
  refine g_iloadN X16 hx hby d9_29 (pc' := 30) rfl rfl ?_
  have f18 := ((((P11.keep Kq2 nin0).other W6 ne_x3_a1).keep Kq9 nin0).other W14 ne_x3_a1)
  refine Go.callS X16 hx hZ (y := (⟨"java/util/Arrays", "copyOf", "([II)[I"⟩ : MethodName)) hown (wi hw 64 rfl) (wi hw 65 rfl) (wi hw 66 rfl) (wi hw 67 rfl) (by decide) e16 (argsL := [(.ref x3), (.int (4 : Int32))]) (rest := [(.ref a1)]) (W := 1) (rm_copyI l Z a0 hw x3 g3 h14 n0 (Nat.le_trans (Nat.le_trans (Nat.le_trans (Nat.le_trans Z0 Kq2.1) (Nat.le_of_eq (Wr.size W6).symm)) Kq9.1) (Nat.le_of_eq (Wr.size W14).symm)) f18) (hb hby d9_30) (by rw [hml]; rfl) rfl pd_ayIIzyI rfl rfl (by decide) (by decide) (by decide) (by decide) ?_
  intro v17 T17 L17 X17 hQ17
  obtain ⟨h17, e17⟩ : ∃ z, T17.heap = z := ⟨_, rfl⟩
  rw [e17] at hQ17
  obtain ⟨b1_17, rfl, Nq17, Kq17, gqb1_17, sqb1_17, Fq0_17⟩ := hQ17
  have N17 := Fr.app (Fr.snoc X14 N9 ge_a1) Nq17
  have z19 : n0 ≤ h17.size := (Nat.le_trans (Nat.le_trans (Nat.le_trans (Nat.le_trans (Nat.le_trans Z0 Kq2.1) (Nat.le_of_eq (Wr.size W6).symm)) Kq9.1) (Nat.le_of_eq (Wr.size W14).symm)) Kq17.1)
  have s20 : h0.size ≤ b1_17 := Nat.le_trans ((((K0.trans Kq2 all0).wr W6 (Or.inl (List.mem_of_getElem? (i := 0) rfl))).trans Kq9 all0).wr W14 (Or.inl (List.mem_of_getElem? (i := 0) rfl))).1 sqb1_17
  show Go p.tables e below s _ _ _ (T17.setTop (mkF m 33 #[.val (.ref a1), .val (.int (4 : Int32))] [(.ref b1_17), (.ref a1)]))
  have f21 := f15.keep Kq17 nin0
  have f22 := ((f13.wr W14).keep Kq17)
  refine g_putf X17 hx hby hZ hown (host := "") (Or.inl (wi hw 15 rfl)) Via.refl e17 f21 f22 (Or.inl (wi hw 16 rfl)) (wi hw 2 rfl) (ty := (.array .int)) (by decide) rfl rfl d9_33 (pc' := 36) rfl ?_
  intro T23 h23 X23 e23 W23 F23
  have K24 : Keep h0 h23 [a1] := ((((((K0.trans Kq2 all0).wr W6 (Or.inl (List.mem_of_getElem? (i := 0) rfl))).trans Kq9 all0).wr W14 (Or.inl (List.mem_of_getElem? (i := 0) rfl))).trans Kq17 all0).wr W23 (Or.inl (List.mem_of_getElem? (i := 0) rfl)))
  refine g_aloadN X23 hx hby d9_36 (pc' := 37) rfl rfl rfl ?_
  refine g_aloadN X23 hx hby d9_37 (pc' := 38) rfl rfl rfl ?_
  have f25 := ((((((P6.keep Kq2 nin0).other W6 (Or.inr (slot_ne (Or.inl (wi hw 18 rfl)) (Or.inl (wi hw 12 rfl)) (by decide) (t := (.array .int)) (t' := (.array .int)) (by decide) (by decide)))).keep Kq9 nin0).other W14 (Or.inr (slot_ne (Or.inl (wi hw 18 rfl)) (Or.inl (wi hw 14 rfl)) (by decide) (t := (.array .int)) (t' := (.array .int)) (by decide) (by decide)))).keep Kq17 nin0).other W23 (Or.inr (slot_ne (Or.inl (wi hw 18 rfl)) (Or.inl (wi hw 16 rfl)) (by decide) (t := (.array .int)) (t' := (.array .int)) (by decide) (by decide))))
  refine g_getf X23 hx hby hZ hown (host := "") (Or.inl (wi hw 17 rfl)) Via.refl e23 f25 d9_38 (pc' := 41) rfl ?_
  intro T26 X26 e26
  refine g_iloadN X26 hx hby d9_41 (pc' := 42) rfl rfl ?_
  have f28 := ((((((P12.keep Kq2 nin0).other W6 ne_x4_a1).keep Kq9 nin0).other W14 ne_x4_a1).keep Kq17 nin0).other W23 ne_x4_a1)
  refine Go.callS X26 hx hZ (y := (⟨"java/util/Arrays", "copyOf", "([II)[I"⟩ : MethodName)) hown (wi hw 64 rfl) (wi hw 65 rfl) (wi hw 66 rfl) (wi hw 67 rfl) (by decide) e26 (argsL := [(.ref x4), (.int (4 : Int32))]) (rest := [(.ref a1)]) (W := 1) (rm_copyI l Z a0 hw x4 g4 h23 n0 (Nat.le_trans z19 (Nat.le_of_eq (Wr.size W23).symm)) f28) (hb hby d9_42) (by rw [hml]; rfl) rfl pd_ayIIzyI rfl rfl (by decide) (by decide) (by decide) (by decide) ?_
  intro v27 T27 L27 X27 hQ27
  obtain ⟨h27, e27⟩ : ∃ z, T27.heap = z := ⟨_, rfl⟩
  rw [e27] at hQ27
  obtain ⟨b1_27, rfl, Nq27, Kq27, gqb1_27, sqb1_27, Fq0_27⟩ := hQ27
  have N27 := Fr.app (Fr.snoc X23 N17 ge_a1) Nq27
  have s29 : h0.size ≤ b1_27 := Nat.le_trans K24.1 sqb1_27
  show Go p.tables e below s _ _ _ (T27.setTop (mkF m 45 #[.val (.ref a1), .val (.int (4 : Int32))] [(.ref b1_27), (.ref a1)]))
  have f30 := f25.keep Kq27 nin0
  have f31 := ((f22.wr W23).keep Kq27)
  refine g_putf X27 hx hby hZ hown (host := "") (Or.inl (wi hw 17 rfl)) Via.refl e27 f30 f31 (Or.inl (wi hw 18 rfl)) (wi hw 2 rfl) (ty := (.array .int)) (by decide) rfl rfl d9_45 (pc' := 48) rfl ?_
  intro T32 h32 X32 e32 W32 F32
  refine g_aloadN X32 hx hby d9_48 (pc' := 49) rfl rfl rfl ?_
  refine g_aloadN X32 hx hby d9_49 (pc' := 50) rfl rfl rfl ?_
  have f33 := ((((((((P7.keep Kq2 nin0).other W6 (Or.inr (slot_ne (Or.inl (wi hw 21 rfl)) (Or.inl (wi hw 12 rfl)) (by decide) (t := (.array .double)) (t' := (.array .int)) (by decide) (by decide)))).keep Kq9 nin0).other W14 (Or.inr (slot_ne (Or.inl (wi hw 21 rfl)) (Or.inl (wi hw 14 rfl)) (by decide) (t := (.array .double)) (t' := (.array .int)) (by decide) (by decide)))).keep Kq17 nin0).other W23 (Or.inr (slot_ne (Or.inl (wi hw 21 rfl)) (Or.inl (wi hw 16 rfl)) (by decide) (t := (.array .double)) (t' := (.array .int)) (by decide) (by decide)))).keep Kq27 nin0).other W32 (Or.inr (slot_ne (Or.inl (wi hw 21 rfl)) (Or.inl (wi hw 18 rfl)) (by decide) (t := (.array .double)) (t' := (.array .int)) (by decide) (by decide))))
  refine g_getf X32 hx hby hZ hown (host := "") (Or.inl (wi hw 20 rfl)) Via.refl e32 f33 d9_50 (pc' := 53) rfl ?_
  intro T34 X34 e34
  refine g_iloadN X34 hx hby d9_53 (pc' := 54) rfl rfl ?_
  have f36 := ((((((((P13.keep Kq2 nin0).other W6 ne_x5_a1).keep Kq9 nin0).other W14 ne_x5_a1).keep Kq17 nin0).other W23 ne_x5_a1).keep Kq27 nin0).other W32 ne_x5_a1)
  refine Go.callS X34 hx hZ (y := (⟨"java/util/Arrays", "copyOf", "([DI)[D"⟩ : MethodName)) hown (wi hw 75 rfl) (wi hw 76 rfl) (wi hw 66 rfl) (wi hw 77 rfl) (by decide) e34 (argsL := [(.ref x5), (.int (4 : Int32))]) (rest := [(.ref a1)]) (W := 1) (rm_copyD l Z a0 hw x5 g5 h32 n0 (Nat.le_trans (Nat.le_trans (Nat.le_trans z19 (Nat.le_of_eq (Wr.size W23).symm)) Kq27.1) (Nat.le_of_eq (Wr.size W32).symm)) f36) (hb hby d9_54) (by rw [hml]; rfl) rfl pd_ayDIzyD rfl rfl (by decide) (by decide) (by decide) (by decide) ?_
  intro v35 T35 L35 X35 hQ35
  obtain ⟨h35, e35⟩ : ∃ z, T35.heap = z := ⟨_, rfl⟩
  rw [e35] at hQ35
  obtain ⟨b1_35, rfl, Nq35, Kq35, gqb1_35, sqb1_35, Fq0_35⟩ := hQ35
  have N35 := Fr.app (Fr.snoc X32 N27 ge_a1) Nq35
  have s37 : h0.size ≤ b1_35 := Nat.le_trans ((K24.trans Kq27 all0).wr W32 (Or.inl (List.mem_of_getElem? (i := 0) rfl))).1 sqb1_35
  show Go p.tables e below s _ _ _ (T35.setTop (mkF m 57 #[.val (.ref a1), .val (.int (4 : Int32))] [(.ref b1_35), (.ref a1)]))
  have f38 := f33.keep Kq35 nin0
  have f39 := ((f31.wr W32).keep Kq35)
  refine g_putf X35 hx hby hZ hown (host := "") (Or.inl (wi hw 20 rfl)) Via.refl e35 f38 f39 (Or.inl (wi hw 21 rfl)) (wi hw 2 rfl) (ty := (.array .double)) (by decide) rfl rfl d9_57 (pc' := 60) rfl ?_
  intro T40 h40 X40 e40 W40 F40
  have z41 : n0 ≤ h40.size := (Nat.le_trans (Nat.le_trans (Nat.le_trans (Nat.le_trans (Nat.le_trans z19 (Nat.le_of_eq (Wr.size W23).symm)) Kq27.1) (Nat.le_of_eq (Wr.size W32).symm)) Kq35.1) (Nat.le_of_eq (Wr.size W40).symm))
  refine g_aloadN X40 hx hby d9_60 (pc' := 61) rfl rfl rfl ?_
  have f42 := ((((((((((P1.keep Kq2 nin0).other W6 (Or.inr (slot_ne (Or.inr (wi hw 28 rfl)) (Or.inl (wi hw 12 rfl)) (by decide) (t := .boolean) (t' := (.array .int)) (by decide) (by decide)))).keep Kq9 nin0).other W14 (Or.inr (slot_ne (Or.inr (wi hw 28 rfl)) (Or.inl (wi hw 14 rfl)) (by decide) (t := .boolean) (t' := (.array .int)) (by decide) (by decide)))).keep Kq17 nin0).other W23 (Or.inr (slot_ne (Or.inr (wi hw 28 rfl)) (Or.inl (wi hw 16 rfl)) (by decide) (t := .boolean) (t' := (.array .int)) (by decide) (by decide)))).keep Kq27 nin0).other W32 (Or.inr (slot_ne (Or.inr (wi hw 28 rfl)) (Or.inl (wi hw 18 rfl)) (by decide) (t := .boolean) (t' := (.array .int)) (by decide) (by decide)))).keep Kq35 nin0).other W40 (Or.inr (slot_ne (Or.inr (wi hw 28 rfl)) (Or.inl (wi hw 21 rfl)) (by decide) (t := .boolean) (t' := (.array .double)) (by decide) (by decide))))
  refine g_getf X40 hx hby hZ hown (host := "") (Or.inl (wi hw 27 rfl)) Via.refl e40 f42 d9_61 (pc' := 64) rfl ?_
  intro T43 X43 e43
  have hc64 : (0 : Int) = (0 : Int) := by decide
  refine g_ifYes X43 hx hby d9_64 (pc' := 79) (teq (show (0 : Int32) = (0 : Int32) from Int32.toInt_inj.mp hc64)).1 (by decide) (by decide) ?_
  refine Go.retV X43 hx hlk hret (hb hby d9_79) rfl (by decide) (by decide) ?_
  have f44 := ((((((((F6.keep Kq9 nin0).other W14 (Or.inr (slot_ne (Or.inl (wi hw 12 rfl)) (Or.inl (wi hw 14 rfl)) (by decide) (t := (.array .int)) (t' := (.array .int)) (by decide) (by decide)))).keep Kq17 nin0).other W23 (Or.inr (slot_ne (Or.inl (wi hw 12 rfl)) (Or.inl (wi hw 16 rfl)) (by decide) (t := (.array .int)) (t' := (.array .int)) (by decide) (by decide)))).keep Kq27 nin0).other W32 (Or.inr (slot_ne (Or.inl (wi hw 12 rfl)) (Or.inl (wi hw 18 rfl)) (by decide) (t := (.array .int)) (t' := (.array .int)) (by decide) (by decide)))).keep Kq35 nin0).other W40 (Or.inr (slot_ne (Or.inl (wi hw 12 rfl)) (Or.inl (wi hw 21 rfl)) (by decide) (t := (.array .int)) (t' := (.array .double)) (by decide) (by decide))))
  have f45 := ((((((F14.keep Kq17 nin0).other W23 (Or.inr (slot_ne (Or.inl (wi hw 14 rfl)) (Or.inl (wi hw 16 rfl)) (by decide) (t := (.array .int)) (t' := (.array .int)) (by decide) (by decide)))).keep Kq27 nin0).other W32 (Or.inr (slot_ne (Or.inl (wi hw 14 rfl)) (Or.inl (wi hw 18 rfl)) (by decide) (t := (.array .int)) (t' := (.array .int)) (by decide) (by decide)))).keep Kq35 nin0).other W40 (Or.inr (slot_ne (Or.inl (wi hw 14 rfl)) (Or.inl (wi hw 21 rfl)) (by decide) (t := (.array .int)) (t' := (.array .double)) (by decide) (by decide))))
  have f46 := ((((F23.keep Kq27 nin0).other W32 (Or.inr (slot_ne (Or.inl (wi hw 16 rfl)) (Or.inl (wi hw 18 rfl)) (by decide) (t := (.array .int)) (t' := (.array .int)) (by decide) (by decide)))).keep Kq35 nin0).other W40 (Or.inr (slot_ne (Or.inl (wi hw 16 rfl)) (Or.inl (wi hw 21 rfl)) (by decide) (t := (.array .int)) (t' := (.array .double)) (by decide) (by decide))))
  have f47 := ((F32.keep Kq35 nin0).other W40 (Or.inr (slot_ne (Or.inl (wi hw 18 rfl)) (Or.inl (wi hw 21 rfl)) (by decide) (t := (.array .int)) (t' := (.array .double)) (by decide) (by decide))))
  rw [e43]
  have ne48 : a1 ≠ b1_2 := Nat.ne_of_lt (Nat.lt_of_lt_of_le P17.lt sqb1_2)
  have ne49 : b1_2 ≠ b1_9 := Nat.ne_of_lt (Nat.lt_of_lt_of_le (Fq0_2.other W6 (Ne.symm ne48)).lt sqb1_9)
  have ne50 : b1_2 ≠ b1_17 := Nat.ne_of_lt (Nat.lt_of_lt_of_le (((Fq0_2.other W6 (Ne.symm ne48)).keep Kq9 nin0).other W14 (Ne.symm ne48)).lt sqb1_17)
  have ne51 : b1_2 ≠ b1_27 := Nat.ne_of_lt (Nat.lt_of_lt_of_le (((((Fq0_2.other W6 (Ne.symm ne48)).keep Kq9 nin0).other W14 (Ne.symm ne48)).keep Kq17 nin0).other W23 (Ne.symm ne48)).lt sqb1_27)
  have ne52 : b1_2 ≠ b1_35 := Nat.ne_of_lt (Nat.lt_of_lt_of_le (((((((Fq0_2.other W6 (Ne.symm ne48)).keep Kq9 nin0).other W14 (Ne.symm ne48)).keep Kq17 nin0).other W23 (Ne.symm ne48)).keep Kq27 nin0).other W32 (Ne.symm ne48)).lt sqb1_35)
  have ne53 : a1 ≠ b1_9 := Nat.ne_of_lt (Nat.lt_of_lt_of_le f7.lt sqb1_9)
  have ne54 : b1_9 ≠ b1_17 := Nat.ne_of_lt (Nat.lt_of_lt_of_le (Fq0_9.other W14 (Ne.symm ne53)).lt sqb1_17)
  have ne55 : b1_9 ≠ b1_27 := Nat.ne_of_lt (Nat.lt_of_lt_of_le (((Fq0_9.other W14 (Ne.symm ne53)).keep Kq17 nin0).other W23 (Ne.symm ne53)).lt sqb1_27)
  have ne56 : b1_9 ≠ b1_35 := Nat.ne_of_lt (Nat.lt_of_lt_of_le (((((Fq0_9.other W14 (Ne.symm ne53)).keep Kq17 nin0).other W23 (Ne.symm ne53)).keep Kq27 nin0).other W32 (Ne.symm ne53)).lt sqb1_35)
  have ne57 : a1 ≠ b1_17 := Nat.ne_of_lt (Nat.lt_of_lt_of_le f15.lt sqb1_17)
  have ne58 : b1_17 ≠ b1_27 := Nat.ne_of_lt (Nat.lt_of_lt_of_le (Fq0_17.other W23 (Ne.symm ne57)).lt sqb1_27)
  have ne59 : b1_17 ≠ b1_35 := Nat.ne_of_lt (Nat.lt_of_lt_of_le (((Fq0_17.other W23 (Ne.symm ne57)).keep Kq27 nin0).other W32 (Ne.symm ne57)).lt sqb1_35)
  have ne60 : a1 ≠ b1_27 := Nat.ne_of_lt (Nat.lt_of_lt_of_le f25.lt sqb1_27)
  have ne61 : b1_27 ≠ b1_35 := Nat.ne_of_lt (Nat.lt_of_lt_of_le (Fq0_27.other W32 (Ne.symm ne60)).lt sqb1_35)
  have f62 := ((((((((((P2.keep Kq2 nin0).other W6 (Or.inr (slot_ne (Or.inl (wi hw 26 rfl)) (Or.inl (wi hw 12 rfl)) (by decide) (t := (.array .long)) (t' := (.array .int)) (by decide) (by decide)))).keep Kq9 nin0).other W14 (Or.inr (slot_ne (Or.inl (wi hw 26 rfl)) (Or.inl (wi hw 14 rfl)) (by decide) (t := (.array .long)) (t' := (.array .int)) (by decide) (by decide)))).keep Kq17 nin0).other W23 (Or.inr (slot_ne (Or.inl (wi hw 26 rfl)) (Or.inl (wi hw 16 rfl)) (by decide) (t := (.array .long)) (t' := (.array .int)) (by decide) (by decide)))).keep Kq27 nin0).other W32 (Or.inr (slot_ne (Or.inl (wi hw 26 rfl)) (Or.inl (wi hw 18 rfl)) (by decide) (t := (.array .long)) (t' := (.array .int)) (by decide) (by decide)))).keep Kq35 nin0).other W40 (Or.inr (slot_ne (Or.inl (wi hw 26 rfl)) (Or.inl (wi hw 21 rfl)) (by decide) (t := (.array .long)) (t' := (.array .double)) (by decide) (by decide))))
  have f63 := ((((((((((P8.keep Kq2 nin0).other W6 (Or.inr (slot_ne (Or.inl (wi hw 23 rfl)) (Or.inl (wi hw 12 rfl)) (by decide) (t := (.array .int)) (t' := (.array .int)) (by decide) (by decide)))).keep Kq9 nin0).other W14 (Or.inr (slot_ne (Or.inl (wi hw 23 rfl)) (Or.inl (wi hw 14 rfl)) (by decide) (t := (.array .int)) (t' := (.array .int)) (by decide) (by decide)))).keep Kq17 nin0).other W23 (Or.inr (slot_ne (Or.inl (wi hw 23 rfl)) (Or.inl (wi hw 16 rfl)) (by decide) (t := (.array .int)) (t' := (.array .int)) (by decide) (by decide)))).keep Kq27 nin0).other W32 (Or.inr (slot_ne (Or.inl (wi hw 23 rfl)) (Or.inl (wi hw 18 rfl)) (by decide) (t := (.array .int)) (t' := (.array .int)) (by decide) (by decide)))).keep Kq35 nin0).other W40 (Or.inr (slot_ne (Or.inl (wi hw 23 rfl)) (Or.inl (wi hw 21 rfl)) (by decide) (t := (.array .int)) (t' := (.array .double)) (by decide) (by decide))))
  have f64 := ((((((((((P15.keep Kq2 nin0).other W6 (Or.inr (slot_ne (Or.inl (wi hw 39 rfl)) (Or.inl (wi hw 12 rfl)) (by decide) (t := .int) (t' := (.array .int)) (by decide) (by decide)))).keep Kq9 nin0).other W14 (Or.inr (slot_ne (Or.inl (wi hw 39 rfl)) (Or.inl (wi hw 14 rfl)) (by decide) (t := .int) (t' := (.array .int)) (by decide) (by decide)))).keep Kq17 nin0).other W23 (Or.inr (slot_ne (Or.inl (wi hw 39 rfl)) (Or.inl (wi hw 16 rfl)) (by decide) (t := .int) (t' := (.array .int)) (by decide) (by decide)))).keep Kq27 nin0).other W32 (Or.inr (slot_ne (Or.inl (wi hw 39 rfl)) (Or.inl (wi hw 18 rfl)) (by decide) (t := .int) (t' := (.array .int)) (by decide) (by decide)))).keep Kq35 nin0).other W40 (Or.inr (slot_ne (Or.inl (wi hw 39 rfl)) (Or.inl (wi hw 21 rfl)) (by decide) (t := .int) (t' := (.array .double)) (by decide) (by decide))))
  have f65 := ((((((((((P16.keep Kq2 nin0).other W6 (Or.inr (slot_ne (Or.inl (wi hw 79 rfl)) (Or.inl (wi hw 12 rfl)) (by decide) (t := .int) (t' := (.array .int)) (by decide) (by decide)))).keep Kq9 nin0).other W14 (Or.inr (slot_ne (Or.inl (wi hw 79 rfl)) (Or.inl (wi hw 14 rfl)) (by decide) (t := .int) (t' := (.array .int)) (by decide) (by decide)))).keep Kq17 nin0).other W23 (Or.inr (slot_ne (Or.inl (wi hw 79 rfl)) (Or.inl (wi hw 16 rfl)) (by decide) (t := .int) (t' := (.array .int)) (by decide) (by decide)))).keep Kq27 nin0).other W32 (Or.inr (slot_ne (Or.inl (wi hw 79 rfl)) (Or.inl (wi hw 18 rfl)) (by decide) (t := .int) (t' := (.array .int)) (by decide) (by decide)))).keep Kq35 nin0).other W40 (Or.inr (slot_ne (Or.inl (wi hw 79 rfl)) (Or.inl (wi hw 21 rfl)) (by decide) (t := .int) (t' := (.array .double)) (by decide) (by decide))))
  have f66 := ((((((((((P17.keep Kq2 nin0).other W6 (Or.inr (slot_ne (Or.inl (wi hw 81 rfl)) (Or.inl (wi hw 12 rfl)) (by decide) (t := .long) (t' := (.array .int)) (by decide) (by decide)))).keep Kq9 nin0).other W14 (Or.inr (slot_ne (Or.inl (wi hw 81 rfl)) (Or.inl (wi hw 14 rfl)) (by decide) (t := .long) (t' := (.array .int)) (by decide) (by decide)))).keep Kq17 nin0).other W23 (Or.inr (slot_ne (Or.inl (wi hw 81 rfl)) (Or.inl (wi hw 16 rfl)) (by decide) (t := .long) (t' := (.array .int)) (by decide) (by decide)))).keep Kq27 nin0).other W32 (Or.inr (slot_ne (Or.inl (wi hw 81 rfl)) (Or.inl (wi hw 18 rfl)) (by decide) (t := .long) (t' := (.array .int)) (by decide) (by decide)))).keep Kq35 nin0).other W40 (Or.inr (slot_ne (Or.inl (wi hw 81 rfl)) (Or.inl (wi hw 21 rfl)) (by decide) (t := .long) (t' := (.array .double)) (by decide) (by decide))))
  have f67 := (((((((((Fq0_2.other W6 (Ne.symm ne48)).keep Kq9 nin0).other W14 (Ne.symm ne48)).keep Kq17 nin0).other W23 (Ne.symm ne48)).keep Kq27 nin0).other W32 (Ne.symm ne48)).keep Kq35 nin0).other W40 (Ne.symm ne48))
  have f68 := (((((((Fq0_9.other W14 (Ne.symm ne53)).keep Kq17 nin0).other W23 (Ne.symm ne53)).keep Kq27 nin0).other W32 (Ne.symm ne53)).keep Kq35 nin0).other W40 (Ne.symm ne53))
  have f69 := (((((Fq0_17.other W23 (Ne.symm ne57)).keep Kq27 nin0).other W32 (Ne.symm ne57)).keep Kq35 nin0).other W40 (Ne.symm ne57))
  have f70 := (((Fq0_27.other W32 (Ne.symm ne60)).keep Kq35 nin0).other W40 (Ne.symm ne60))
  have ne71 : a1 ≠ b1_35 := Nat.ne_of_lt (Nat.lt_of_lt_of_le f33.lt sqb1_35)
  have f72 := (Fq0_35.other W40 (Ne.symm ne71))
  exact ⟨b1_2, b1_9, b1_17, b1_27, b1_35, rfl, (Fr.snoc X40 N35 ge_a1), ((((K24.trans Kq27 all0).wr W32 (Or.inl (List.mem_of_getElem? (i := 0) rfl))).trans Kq35 all0).wr W40 (Or.inl (List.mem_of_getElem? (i := 0) rfl))), gqb1_2, s3, gqb1_9, s11, gqb1_17, s20, gqb1_27, s29, gqb1_35, s37, ne49, ne50, ne51, ne52, ne54, ne55, ne56, ne58, ne59, ne61, f42, f62, f44, f45, f46, f47, F40, f63, f64, f65, f66, f67, f68, f69, f70, f72⟩
theorem d5_0 : decode prog_12_method_2_code 0 = .ok (.aload_n 0, 1) := by decide +kernel
theorem d5_1 : decode prog_12_method_2_code 1 = .ok (.getfield 37, 3) := by decide +kernel
theorem d5_4 : decode prog_12_method_2_code 4 = .ok (.istore 6, 2) := by decide +kernel
theorem d5_6 : decode prog_12_method_2_code 6 = .ok (.iload 6, 2) := by decide +kernel
theorem d5_8 : decode prog_12_method_2_code 8 = .ok (.aload_n 0, 1) := by decide +kernel
theorem d5_9 : decode prog_12_method_2_code 9 = .ok (.getfield 7, 3) := by decide +kernel
theorem d5_12 : decode prog_12_method_2_code 12 = .ok (.arraylength, 1) := by decide +kernel
theorem d5_13 : decode prog_12_method_2_code 13 = .ok (.if_icmp .ne 12, 3) := by decide +kernel
theorem d5_16 : decode prog_12_method_2_code 16 = .ok (.aload_n 0, 1) := by decide +kernel
theorem d5_17 : decode prog_12_method_2_code 17 = .ok (.iload 6, 2) := by decide +kernel
theorem d5_19 : decode prog_12_method_2_code 19 = .ok (.invokestatic 41, 3) := by decide +kernel
theorem pd_aIzI : parseMethodDescriptor "(I)I" = some ⟨[.int], some .int⟩ := by decide +kernel
theorem d5_22 : decode prog_12_method_2_code 22 = .ok (.invokevirtual 47, 3) := by decide +kernel
theorem pd_aIzV : parseMethodDescriptor "(I)V" = some ⟨[.int], none⟩ := by decide +kernel
theorem d5_25 : decode prog_12_method_2_code 25 = .ok (.aload_n 0, 1) := by decide +kernel
theorem d5_26 : decode prog_12_method_2_code 26 = .ok (.getfield 7, 3) := by decide +kernel
theorem d5_29 : decode prog_12_method_2_code 29 = .ok (.iload 6, 2) := by decide +kernel
theorem d5_31 : decode prog_12_method_2_code 31 = .ok (.iload_n 1, 1) := by decide +kernel
theorem d5_32 : decode prog_12_method_2_code 32 = .ok (.iastore, 1) := by decide +kernel
theorem d5_33 : decode prog_12_method_2_code 33 = .ok (.aload_n 0, 1) := by decide +kernel
theorem d5_34 : decode prog_12_method_2_code 34 = .ok (.getfield 13, 3) := by decide +kernel
theorem d5_37 : decode prog_12_method_2_code 37 = .ok (.iload 6, 2) := by decide +kernel
theorem d5_39 : decode prog_12_method_2_code 39 = .ok (.iload_n 2, 1) := by decide +kernel
theorem d5_40 : decode prog_12_method_2_code 40 = .ok (.iastore, 1) := by decide +kernel
theorem d5_41 : decode prog_12_method_2_code 41 = .ok (.aload_n 0, 1) := by decide +kernel
theorem d5_42 : decode prog_12_method_2_code 42 = .ok (.getfield 22, 3) := by decide +kernel
theorem d5_45 : decode prog_12_method_2_code 45 = .ok (.iload 6, 2) := by decide +kernel
theorem d5_47 : decode prog_12_method_2_code 47 = .ok (.dload_n 3, 1) := by decide +kernel
theorem d5_48 : decode prog_12_method_2_code 48 = .ok (.dastore, 1) := by decide +kernel
theorem d5_49 : decode prog_12_method_2_code 49 = .ok (.aload_n 0, 1) := by decide +kernel
theorem d5_50 : decode prog_12_method_2_code 50 = .ok (.getfield 33, 3) := by decide +kernel
theorem d5_53 : decode prog_12_method_2_code 53 = .ok (.ifCond .eq 12, 3) := by decide +kernel
theorem d5_65 : decode prog_12_method_2_code 65 = .ok (.aload_n 0, 1) := by decide +kernel
theorem d5_66 : decode prog_12_method_2_code 66 = .ok (.iload 6, 2) := by decide +kernel
theorem d5_68 : decode prog_12_method_2_code 68 = .ok (.iconst 1, 1) := by decide +kernel
theorem d5_69 : decode prog_12_method_2_code 69 = .ok (.iadd, 1) := by decide +kernel
theorem d5_70 : decode prog_12_method_2_code 70 = .ok (.putfield 37, 3) := by decide +kernel
theorem d5_73 : decode prog_12_method_2_code 73 = .ok (.aload_n 0, 1) := by decide +kernel
theorem d5_74 : decode prog_12_method_2_code 74 = .ok (.dup, 1) := by decide +kernel
theorem d5_75 : decode prog_12_method_2_code 75 = .ok (.getfield 51, 3) := by decide +kernel
theorem d5_78 : decode prog_12_method_2_code 78 = .ok (.iconst 1, 1) := by decide +kernel
theorem d5_79 : decode prog_12_method_2_code 79 = .ok (.iadd, 1) := by decide +kernel
theorem d5_80 : decode prog_12_method_2_code 80 = .ok (.putfield 51, 3) := by decide +kernel
theorem d5_83 : decode prog_12_method_2_code 83 = .ok (.aload_n 0, 1) := by decide +kernel
theorem d5_84 : decode prog_12_method_2_code 84 = .ok (.dup, 1) := by decide +kernel
theorem d5_85 : decode prog_12_method_2_code 85 = .ok (.getfield 54, 3) := by decide +kernel
theorem d5_88 : decode prog_12_method_2_code 88 = .ok (.lconst 1, 1) := by decide +kernel
theorem d5_89 : decode prog_12_method_2_code 89 = .ok (.ladd, 1) := by decide +kernel
theorem d5_90 : decode prog_12_method_2_code 90 = .ok (.putfield 54, 3) := by decide +kernel
theorem d5_93 : decode prog_12_method_2_code 93 = .ok (.iload 6, 2) := by decide +kernel
theorem d5_95 : decode prog_12_method_2_code 95 = .ok (.ireturn, 1) := by decide +kernel
theorem ef_rm_addA0 (m : MethodId) (x0 : Addr) (x1 : Int32) (x2 : Int32) (x3 : UInt64) (x4 : Int32) : entryFrame m #[(.ref x0), (.int x1), (.int x2), (.double x3), (.int x4)] 7 = mkF m 0 #[.val (.ref x0), .val (.int x1), .val (.int x2), .val (.double x3), .second, .val (.int x4), .unset] [] := by first | (simp [entryFrame, mkF, argsToLocals, Value.category]; done) | rfl
set_option maxRecDepth 65536 in
set_option maxHeartbeats 40000000 in
theorem rm_addA0 (l : Launch) (Z : State) (a0 : Array Value) (hw : ∀ d ∈ tables_1, d.before a0 Z = true) (a1 : Addr) (i1 : Int32) (i2 : Int32) (d1 : UInt64) (i3 : Int32) (x1 : Addr) (x2 : Addr) (x3 : Addr) (x4 : Addr) (x5 : Addr) (x6 : Addr) (x7 : Addr) (g1 : Nat → Int32) (g2 : Nat → Int32) (g3 : Nat → Int32) (g4 : Nat → Int32) (g5 : Nat → UInt64) (g6 : Nat → Int32) (t2 : Int32) (u1 : Int64) (h0 : Heap) (n0 : Nat) (Z0 : n0 ≤ h0.size) (P0 : Exa Z h0 a1 "com/example/edgewise/edgewise/EdgeSlots") (P1 : Fld Z h0 a1 "com/example/edgewise/edgewise/EdgeSlots" "keyed" "Z" (.int (0 : Int32))) (P2 : Fld Z h0 a1 "com/example/edgewise/edgewise/EdgeSlots" "keptNumbers" "[J" (.ref x7)) (P3 : Fld Z h0 a1 "com/example/edgewise/edgewise/EdgeSlots" "sources" "[I" (.ref x1)) (P4 : Fld Z h0 a1 "com/example/edgewise/edgewise/EdgeSlots" "targets" "[I" (.ref x2)) (P5 : Fld Z h0 a1 "com/example/edgewise/edgewise/EdgeSlots" "sourcePositions" "[I" (.ref x3)) (P6 : Fld Z h0 a1 "com/example/edgewise/edgewise/EdgeSlots" "targetPositions" "[I" (.ref x4)) (P7 : Fld Z h0 a1 "com/example/edgewise/edgewise/EdgeSlots" "weights" "[D" (.ref x5)) (P8 : Fld Z h0 a1 "com/example/edgewise/edgewise/EdgeSlots" "keys" "[I" (.ref x6)) (P9 : ArF Z h0 x1 .int 0 (fun i => .int (g1 i))) (P10 : ArF Z h0 x2 .int 0 (fun i => .int (g2 i))) (P11 : ArF Z h0 x3 .int 0 (fun i => .int (g3 i))) (P12 : ArF Z h0 x4 .int 0 (fun i => .int (g4 i))) (P13 : ArF Z h0 x5 .double 0 (fun i => .double (g5 i))) (P14 : ArF Z h0 x6 .int 0 (fun i => .int (g6 i))) (P15 : Fld Z h0 a1 "com/example/edgewise/edgewise/EdgeSlots" "bound" "I" (.int (0 : Int32))) (P16 : Fld Z h0 a1 "com/example/edgewise/edgewise/EdgeSlots" "count" "I" (.int t2)) (P17 : Fld Z h0 a1 "com/example/edgewise/edgewise/EdgeSlots" "nextNumber" "J" (.long u1)) (ne_x1_a1 : x1 ≠ a1) (ne_x2_a1 : x2 ≠ a1) (ne_x3_a1 : x3 ≠ a1) (ne_x4_a1 : x4 ≠ a1) (ne_x5_a1 : x5 ≠ a1) (ne_x6_a1 : x6 ≠ a1) (ge_a1 : n0 ≤ a1) :
    Con l Z (⟨"com/example/edgewise/edgewise/EdgeSlots", "add", "(IIDI)I"⟩ : MethodName) prog_12_method_2_code 7 (some .int) ({ frames := 3, cells := 5, slots := 20, locals := 68 } : Room) #[(.ref a1), (.int i1), (.int i2), (.double d1), (.int i3)] h0 (fun v h L => ∃ (b1 : Addr) (b2 : Addr) (b3 : Addr) (b4 : Addr) (b5 : Addr), v = some (.int (0 : Int32)) ∧ Fr n0 L ∧ Keep h0 h [a1] ∧ n0 ≤ b1 ∧ h0.size ≤ b1 ∧ n0 ≤ b2 ∧ h0.size ≤ b2 ∧ n0 ≤ b3 ∧ h0.size ≤ b3 ∧ n0 ≤ b4 ∧ h0.size ≤ b4 ∧ n0 ≤ b5 ∧ h0.size ≤ b5 ∧ b1 ≠ b2 ∧ b1 ≠ b3 ∧ b1 ≠ b4 ∧ b1 ≠ b5 ∧ b2 ≠ b3 ∧ b2 ≠ b4 ∧ b2 ≠ b5 ∧ b3 ≠ b4 ∧ b3 ≠ b5 ∧ b4 ≠ b5 ∧ Fld Z h a1 "com/example/edgewise/edgewise/EdgeSlots" "keyed" "Z" (.int (0 : Int32)) ∧ Fld Z h a1 "com/example/edgewise/edgewise/EdgeSlots" "keptNumbers" "[J" (.ref x7) ∧ Fld Z h a1 "com/example/edgewise/edgewise/EdgeSlots" "sources" "[I" (.ref b1) ∧ Fld Z h a1 "com/example/edgewise/edgewise/EdgeSlots" "targets" "[I" (.ref b2) ∧ Fld Z h a1 "com/example/edgewise/edgewise/EdgeSlots" "sourcePositions" "[I" (.ref b3) ∧ Fld Z h a1 "com/example/edgewise/edgewise/EdgeSlots" "targetPositions" "[I" (.ref b4) ∧ Fld Z h a1 "com/example/edgewise/edgewise/EdgeSlots" "weights" "[D" (.ref b5) ∧ Fld Z h a1 "com/example/edgewise/edgewise/EdgeSlots" "keys" "[I" (.ref x6) ∧ Fld Z h a1 "com/example/edgewise/edgewise/EdgeSlots" "bound" "I" (.int (1 : Int32)) ∧ Fld Z h a1 "com/example/edgewise/edgewise/EdgeSlots" "count" "I" (.int (t2 + (1 : Int32))) ∧ Fld Z h a1 "com/example/edgewise/edgewise/EdgeSlots" "nextNumber" "J" (.long (u1 + (1 : Int64))) ∧ ArF Z h b1 .int 4 (fun i => .int ((upI (fun _ => (0 : Int32)) 0 i1) i)) ∧ ArF Z h b2 .int 4 (fun i => .int ((upI (fun _ => (0 : Int32)) 0 i2) i)) ∧ ArF Z h b3 .int 4 (fun i => .int ((fun _ => (0 : Int32)) i)) ∧ ArF Z h b4 .int 4 (fun i => .int ((fun _ => (0 : Int32)) i)) ∧ ArF Z h b5 .double 4 (fun i => .double ((upD (fun _ => (0 : UInt64)) 0 d1) i))) := by
  refine meet (y := (⟨"com/example/edgewise/edgewise/EdgeSlots", "add", "(IIDI)I"⟩ : MethodName)) (Q := fun v h L => ∃ (b1 : Addr) (b2 : Addr) (b3 : Addr) (b4 : Addr) (b5 : Addr), v = some (.int (0 : Int32)) ∧ Fr n0 L ∧ Keep h0 h [a1] ∧ n0 ≤ b1 ∧ h0.size ≤ b1 ∧ n0 ≤ b2 ∧ h0.size ≤ b2 ∧ n0 ≤ b3 ∧ h0.size ≤ b3 ∧ n0 ≤ b4 ∧ h0.size ≤ b4 ∧ n0 ≤ b5 ∧ h0.size ≤ b5 ∧ b1 ≠ b2 ∧ b1 ≠ b3 ∧ b1 ≠ b4 ∧ b1 ≠ b5 ∧ b2 ≠ b3 ∧ b2 ≠ b4 ∧ b2 ≠ b5 ∧ b3 ≠ b4 ∧ b3 ≠ b5 ∧ b4 ≠ b5 ∧ Fld Z h a1 "com/example/edgewise/edgewise/EdgeSlots" "keyed" "Z" (.int (0 : Int32)) ∧ Fld Z h a1 "com/example/edgewise/edgewise/EdgeSlots" "keptNumbers" "[J" (.ref x7) ∧ Fld Z h a1 "com/example/edgewise/edgewise/EdgeSlots" "sources" "[I" (.ref b1) ∧ Fld Z h a1 "com/example/edgewise/edgewise/EdgeSlots" "targets" "[I" (.ref b2) ∧ Fld Z h a1 "com/example/edgewise/edgewise/EdgeSlots" "sourcePositions" "[I" (.ref b3) ∧ Fld Z h a1 "com/example/edgewise/edgewise/EdgeSlots" "targetPositions" "[I" (.ref b4) ∧ Fld Z h a1 "com/example/edgewise/edgewise/EdgeSlots" "weights" "[D" (.ref b5) ∧ Fld Z h a1 "com/example/edgewise/edgewise/EdgeSlots" "keys" "[I" (.ref x6) ∧ Fld Z h a1 "com/example/edgewise/edgewise/EdgeSlots" "bound" "I" (.int (1 : Int32)) ∧ Fld Z h a1 "com/example/edgewise/edgewise/EdgeSlots" "count" "I" (.int (t2 + (1 : Int32))) ∧ Fld Z h a1 "com/example/edgewise/edgewise/EdgeSlots" "nextNumber" "J" (.long (u1 + (1 : Int64))) ∧ ArF Z h b1 .int 4 (fun i => .int ((upI (fun _ => (0 : Int32)) 0 i1) i)) ∧ ArF Z h b2 .int 4 (fun i => .int ((upI (fun _ => (0 : Int32)) 0 i2) i)) ∧ ArF Z h b3 .int 4 (fun i => .int ((fun _ => (0 : Int32)) i)) ∧ ArF Z h b4 .int 4 (fun i => .int ((fun _ => (0 : Int32)) i)) ∧ ArF Z h b5 .double 4 (fun i => .double ((upD (fun _ => (0 : UInt64)) 0 d1) i))) (plainFor_of_name pn_com_example_edgewise_edgewise_EdgeSlots) (fun m => ef_rm_addA0 m a1 i1 i2 d1 i3) ?_
  intro p e s m below meth c T0 hx hby hml hZ hown hnm hret hlk X0 e0
  have N0 := Fr.nil n0
  have K0 := Keep.refl h0 [a1]
  refine g_aloadN X0 hx hby d5_0 (pc' := 1) rfl rfl rfl ?_
  refine g_getf X0 hx hby hZ hown (host := "") (Or.inl (wi hw 38 rfl)) Via.refl e0 P15 d5_1 (pc' := 4) rfl ?_
  intro T1 X1 e1
  refine g_istore X1 hx hby d5_4 (pc' := 6) rfl (L' := #[.val (.ref a1), .val (.int i1), .val (.int i2), .val (.double d1), .second, .val (.int i3), .val (.int (0 : Int32))]) rfl ?_
  refine g_iload X1 hx hby d5_6 (pc' := 8) rfl rfl ?_
  refine g_aloadN X1 hx hby d5_8 (pc' := 9) rfl rfl rfl ?_
  refine g_getf X1 hx hby hZ hown (host := "") (Or.inl (wi hw 11 rfl)) Via.refl e1 P3 d5_9 (pc' := 12) rfl ?_
  intro T2 X2 e2
  refine Go.alen X2 hx hZ e2 P9 (hb hby d5_12) ?_
  show Go p.tables e below s _ _ _ (T2.setTop (mkF m 13 #[.val (.ref a1), .val (.int i1), .val (.int i2), .val (.double d1), .second, .val (.int i3), .val (.int (0 : Int32))] [(.int (0 : Int32)), (.int (0 : Int32))]))
  have hc13 : (0 : Int) = (0 : Int) := by decide
  refine g_icmpNo X2 hx hby d5_13 (pc' := 16) (teq (show (0 : Int32) = (0 : Int32) from Int32.toInt_inj.mp hc13)).2 rfl ?_
  refine g_aloadN X2 hx hby d5_16 (pc' := 17) rfl rfl rfl ?_
  refine g_iload X2 hx hby d5_17 (pc' := 19) rfl rfl ?_
  refine Go.callS X2 hx hZ (y := (⟨"com/example/edgewise/edgewise/Capacity", "next", "(I)I"⟩ : MethodName)) hown (wi hw 45 rfl) (wi hw 46 rfl) (wi hw 47 rfl) (wi hw 48 rfl) (by decide) e2 (argsL := [(.int (0 : Int32))]) (rest := [(.ref a1)]) (W := 1) (rm_next0 l Z a0 hw  h0 n0 Z0 ) (hb hby d5_19) (by rw [hml]; rfl) rfl pd_aIzI rfl rfl (by decide) (by decide) (by decide) (by decide) ?_
  intro v3 T3 L3 X3 hQ3
  obtain ⟨rfl, Nq3, hh3⟩ := hQ3
  have N3 := Fr.app N0 Nq3
  show Go p.tables e below s _ _ _ (T3.setTop (mkF m 22 #[.val (.ref a1), .val (.int i1), .val (.int i2), .val (.double d1), .second, .val (.int i3), .val (.int (0 : Int32))] [(.int (4 : Int32)), (.ref a1)]))
  refine Go.callP X3 hx hZ (y := (⟨"com/example/edgewise/edgewise/EdgeSlots", "resize", "(I)V"⟩ : MethodName)) hown (wi hw 60 rfl) (wi hw 61 rfl) (wi hw 2 rfl) (wi hw 62 rfl) (wi hw 3 rfl) (wi hw 63 rfl) (by decide) hh3 (a := a1)  (argsL := [(.int (4 : Int32))]) (rest := []) (W := 0) P0 (rm_resize0 l Z a0 hw a1 x1 x2 x3 x4 x5 x6 x7 g1 g2 g3 g4 g5 g6 (0 : Int32) t2 u1 h0 n0 Z0 P0 P1 P2 P3 P4 P5 P6 P7 P8 P9 P10 P11 P12 P13 P14 P15 P16 P17 ne_x1_a1 ne_x2_a1 ne_x3_a1 ne_x4_a1 ne_x5_a1 ne_x6_a1 ge_a1) (hb hby d5_22) (by rw [hml]; rfl) rfl pd_aIzV rfl rfl (by decide) (by decide) (by decide) (by decide) ?_
  intro v4 T4 L4 X4 hQ4
  obtain ⟨h4, e4⟩ : ∃ z, T4.heap = z := ⟨_, rfl⟩
  rw [e4] at hQ4
  obtain ⟨b1_4, b2_4, b3_4, b4_4, b5_4, rfl, Nq4, Kq4, gqb1_4, sqb1_4, gqb2_4, sqb2_4, gqb3_4, sqb3_4, gqb4_4, sqb4_4, gqb5_4, sqb5_4, nqb1_b2_4, nqb1_b3_4, nqb1_b4_4, nqb1_b5_4, nqb2_b3_4, nqb2_b4_4, nqb2_b5_4, nqb3_b4_4, nqb3_b5_4, nqb4_b5_4, Fq0_4, Fq1_4, Fq2_4, Fq3_4, Fq4_4, Fq5_4, Fq6_4, Fq7_4, Fq8_4, Fq9_4, Fq10_4, Fq11_4, Fq12_4, Fq13_4, Fq14_4, Fq15_4⟩ := hQ4
  have N4 := Fr.app N3 Nq4
  have s5 : h0.size ≤ b1_4 := Nat.le_trans K0.1 sqb1_4
  have s6 : h0.size ≤ b2_4 := Nat.le_trans K0.1 sqb2_4
  have s7 : h0.size ≤ b3_4 := Nat.le_trans K0.1 sqb3_4
  have s8 : h0.size ≤ b4_4 := Nat.le_trans K0.1 sqb4_4
  have s9 : h0.size ≤ b5_4 := Nat.le_trans K0.1 sqb5_4
  show Go p.tables e below s _ _ _ (T4.setTop (mkF m 25 #[.val (.ref a1), .val (.int i1), .val (.int i2), .val (.double d1), .second, .val (.int i3), .val (.int (0 : Int32))] []))
  refine g_aloadN X4 hx hby d5_25 (pc' := 26) rfl rfl rfl ?_
  refine g_getf X4 hx hby hZ hown (host := "") (Or.inl (wi hw 11 rfl)) Via.refl e4 Fq2_4 d5_26 (pc' := 29) rfl ?_
  intro T10 X10 e10
  refine g_iload X10 hx hby d5_29 (pc' := 31) rfl rfl ?_
  refine g_iloadN X10 hx hby d5_31 (pc' := 32) rfl rfl ?_
  refine Go.iastore X10 hx hZ e10 Fq11_4 (k := 0) rfl (by decide) (hb hby d5_32) ?_
  intro T11 h11 X11 e11 W11 V11
  show Go p.tables e below s _ _ _ (T11.setTop (mkF m 33 #[.val (.ref a1), .val (.int i1), .val (.int i2), .val (.double d1), .second, .val (.int i3), .val (.int (0 : Int32))] []))
  refine g_aloadN X11 hx hby d5_33 (pc' := 34) rfl rfl rfl ?_
  have ne12 : a1 ≠ b1_4 := Nat.ne_of_lt (Nat.lt_of_lt_of_le P17.lt sqb1_4)
  have f13 := (Fq3_4.other W11 (Or.inl ne12))
  refine g_getf X11 hx hby hZ hown (host := "") (Or.inl (wi hw 13 rfl)) Via.refl e11 f13 d5_34 (pc' := 37) rfl ?_
  intro T14 X14 e14
  refine g_iload X14 hx hby d5_37 (pc' := 39) rfl rfl ?_
  refine g_iloadN X14 hx hby d5_39 (pc' := 40) rfl rfl ?_
  have f15 := (Fq12_4.other W11 (Ne.symm nqb1_b2_4))
  refine Go.iastore X14 hx hZ e14 f15 (k := 0) rfl (by decide) (hb hby d5_40) ?_
  intro T16 h16 X16 e16 W16 V16
  show Go p.tables e below s _ _ _ (T16.setTop (mkF m 41 #[.val (.ref a1), .val (.int i1), .val (.int i2), .val (.double d1), .second, .val (.int i3), .val (.int (0 : Int32))] []))
  refine g_aloadN X16 hx hby d5_41 (pc' := 42) rfl rfl rfl ?_
  have ne17 : a1 ≠ b2_4 := Nat.ne_of_lt (Nat.lt_of_lt_of_le P17.lt sqb2_4)
  have f18 := ((Fq6_4.other W11 (Or.inl ne12)).other W16 (Or.inl ne17))
  refine g_getf X16 hx hby hZ hown (host := "") (Or.inl (wi hw 20 rfl)) Via.refl e16 f18 d5_42 (pc' := 45) rfl ?_
  intro T19 X19 e19
  refine g_iload X19 hx hby d5_45 (pc' := 47) rfl rfl ?_
  refine g_dloadN X19 hx hby d5_47 (pc' := 48) rfl rfl ?_
  have f20 := ((Fq15_4.other W11 (Ne.symm nqb1_b5_4)).other W16 (Ne.symm nqb2_b5_4))
  refine Go.dastore X19 hx hZ e19 f20 (k := 0) rfl (by decide) (hb hby d5_48) ?_
  intro T21 h21 X21 e21 W21 V21
  have z22 : n0 ≤ h21.size := (Nat.le_trans (Nat.le_trans (Nat.le_trans (Nat.le_trans Z0 Kq4.1) (Nat.le_of_eq (Wr.size W11).symm)) (Nat.le_of_eq (Wr.size W16).symm)) (Nat.le_of_eq (Wr.size W21).symm))
  show Go p.tables e below s _ _ _ (T21.setTop (mkF m 49 #[.val (.ref a1), .val (.int i1), .val (.int i2), .val (.double d1), .second, .val (.int i3), .val (.int (0 : Int32))] []))
  refine g_aloadN X21 hx hby d5_49 (pc' := 50) rfl rfl rfl ?_
  have ne23 : a1 ≠ b5_4 := Nat.ne_of_lt (Nat.lt_of_lt_of_le P17.lt sqb5_4)
  have f24 := (((Fq0_4.other W11 (Or.inl ne12)).other W16 (Or.inl ne17)).other W21 (Or.inl ne23))
  refine g_getf X21 hx hby hZ hown (host := "") (Or.inl (wi hw 27 rfl)) Via.refl e21 f24 d5_50 (pc' := 53) rfl ?_
  intro T25 X25 e25
  have hc53 : (0 : Int) = (0 : Int) := by decide
  refine g_ifYes X25 hx hby d5_53 (pc' := 65) (teq (show (0 : Int32) = (0 : Int32) from Int32.toInt_inj.mp hc53)).1 (by decide) (by decide) ?_
  refine g_aloadN X25 hx hby d5_65 (pc' := 66) rfl rfl rfl ?_
  refine g_iload X25 hx hby d5_66 (pc' := 68) rfl rfl ?_
  refine g_iconst X25 hx hby d5_68 (pc' := 69) rfl (z := (1 : Int32)) rfl ?_
  refine g_iadd X25 hx hby d5_69 (pc' := 70) rfl (z := (1 : Int32)) rfl ?_
  have f26 := (((Fq8_4.other W11 (Or.inl ne12)).other W16 (Or.inl ne17)).other W21 (Or.inl ne23))
  have f27 := ((((P0.keep Kq4).wr W11).wr W16).wr W21)
  refine g_putf X25 hx hby hZ hown (host := "") (Or.inl (wi hw 38 rfl)) Via.refl e25 f26 f27 (Or.inl (wi hw 39 rfl)) (wi hw 2 rfl) (ty := .int) (by decide) rfl rfl d5_70 (pc' := 73) rfl ?_
  intro T28 h28 X28 e28 W28 F28
  refine g_aloadN X28 hx hby d5_73 (pc' := 74) rfl rfl rfl ?_
  refine g_dup X28 hx hby d5_74 (pc' := 75) rfl rfl ?_
  have f29 := ((((Fq9_4.other W11 (Or.inl ne12)).other W16 (Or.inl ne17)).other W21 (Or.inl ne23)).other W28 (Or.inr (slot_ne (Or.inl (wi hw 79 rfl)) (Or.inl (wi hw 39 rfl)) (by decide) (t := .int) (t' := .int) (by decide) (by decide))))
  refine g_getf X28 hx hby hZ hown (host := "") (Or.inl (wi hw 78 rfl)) Via.refl e28 f29 d5_75 (pc' := 78) rfl ?_
  intro T30 X30 e30
  refine g_iconst X30 hx hby d5_78 (pc' := 79) rfl (z := (1 : Int32)) rfl ?_
  refine g_iadd X30 hx hby d5_79 (pc' := 80) rfl rfl ?_
  have f31 := f27.wr W28
  refine g_putf X30 hx hby hZ hown (host := "") (Or.inl (wi hw 78 rfl)) Via.refl e30 f29 f31 (Or.inl (wi hw 79 rfl)) (wi hw 2 rfl) (ty := .int) (by decide) rfl rfl d5_80 (pc' := 83) rfl ?_
  intro T32 h32 X32 e32 W32 F32
  have K33 : Keep h0 h32 [a1] := ((((((K0.trans Kq4 (allS (Or.inl (List.mem_of_getElem? (i := 0) rfl)) all0)).wr W11 (Or.inr s5)).wr W16 (Or.inr s6)).wr W21 (Or.inr s9)).wr W28 (Or.inl (List.mem_of_getElem? (i := 0) rfl))).wr W32 (Or.inl (List.mem_of_getElem? (i := 0) rfl)))
  refine g_aloadN X32 hx hby d5_83 (pc' := 84) rfl rfl rfl ?_
  refine g_dup X32 hx hby d5_84 (pc' := 85) rfl rfl ?_
  have f34 := (((((Fq10_4.other W11 (Or.inl ne12)).other W16 (Or.inl ne17)).other W21 (Or.inl ne23)).other W28 (Or.inr (slot_ne (Or.inl (wi hw 81 rfl)) (Or.inl (wi hw 39 rfl)) (by decide) (t := .long) (t' := .int) (by decide) (by decide)))).other W32 (Or.inr (slot_ne (Or.inl (wi hw 81 rfl)) (Or.inl (wi hw 79 rfl)) (by decide) (t := .long) (t' := .int) (by decide) (by decide))))
  refine g_getf X32 hx hby hZ hown (host := "") (Or.inl (wi hw 80 rfl)) Via.refl e32 f34 d5_85 (pc' := 88) rfl ?_
  intro T35 X35 e35
  refine Go.of (fun _ k => XS.lconst X35.here hx rfl (hb hby d5_88) k) ?_
  show Go p.tables e below s _ _ _ (T35.setTop (mkF m 89 #[.val (.ref a1), .val (.int i1), .val (.int i2), .val (.double d1), .second, .val (.int i3), .val (.int (0 : Int32))] [(.long (1 : Int64)), (.long u1), (.ref a1)]))
  refine g_ladd X35 hx hby d5_89 (pc' := 90) rfl rfl ?_
  have f36 := f31.wr W32
  refine g_putf X35 hx hby hZ hown (host := "") (Or.inl (wi hw 80 rfl)) Via.refl e35 f34 f36 (Or.inl (wi hw 81 rfl)) (wi hw 2 rfl) (ty := .long) (by decide) rfl rfl d5_90 (pc' := 93) rfl ?_
  intro T37 h37 X37 e37 W37 F37
  have N37 := (Fr.snoc X37 (Fr.snoc X32 (Fr.snoc X28 (Fr.snoc X21 (Fr.snoc X16 (Fr.snoc X11 N4 gqb1_4) gqb2_4) gqb5_4) ge_a1) ge_a1) ge_a1)
  refine g_iload X37 hx hby d5_93 (pc' := 95) rfl rfl ?_
  refine Go.retI X37 hx hlk hret (hb hby d5_95) (by decide) (by decide) ?_
  have f38 := ((((((Fq2_4.other W11 (Or.inl ne12)).other W16 (Or.inl ne17)).other W21 (Or.inl ne23)).other W28 (Or.inr (slot_ne (Or.inl (wi hw 12 rfl)) (Or.inl (wi hw 39 rfl)) (by decide) (t := (.array .int)) (t' := .int) (by decide) (by decide)))).other W32 (Or.inr (slot_ne (Or.inl (wi hw 12 rfl)) (Or.inl (wi hw 79 rfl)) (by decide) (t := (.array .int)) (t' := .int) (by decide) (by decide)))).other W37 (Or.inr (slot_ne (Or.inl (wi hw 12 rfl)) (Or.inl (wi hw 81 rfl)) (by decide) (t := (.array .int)) (t' := .long) (by decide) (by decide))))
  have f39 := (((((f13.other W16 (Or.inl ne17)).other W21 (Or.inl ne23)).other W28 (Or.inr (slot_ne (Or.inl (wi hw 14 rfl)) (Or.inl (wi hw 39 rfl)) (by decide) (t := (.array .int)) (t' := .int) (by decide) (by decide)))).other W32 (Or.inr (slot_ne (Or.inl (wi hw 14 rfl)) (Or.inl (wi hw 79 rfl)) (by decide) (t := (.array .int)) (t' := .int) (by decide) (by decide)))).other W37 (Or.inr (slot_ne (Or.inl (wi hw 14 rfl)) (Or.inl (wi hw 81 rfl)) (by decide) (t := (.array .int)) (t' := .long) (by decide) (by decide))))
  have f40 := ((((((Fq4_4.other W11 (Or.inl ne12)).other W16 (Or.inl ne17)).other W21 (Or.inl ne23)).other W28 (Or.inr (slot_ne (Or.inl (wi hw 16 rfl)) (Or.inl (wi hw 39 rfl)) (by decide) (t := (.array .int)) (t' := .int) (by decide) (by decide)))).other W32 (Or.inr (slot_ne (Or.inl (wi hw 16 rfl)) (Or.inl (wi hw 79 rfl)) (by decide) (t := (.array .int)) (t' := .int) (by decide) (by decide)))).other W37 (Or.inr (slot_ne (Or.inl (wi hw 16 rfl)) (Or.inl (wi hw 81 rfl)) (by decide) (t := (.array .int)) (t' := .long) (by decide) (by decide))))
  have f41 := ((((((Fq5_4.other W11 (Or.inl ne12)).other W16 (Or.inl ne17)).other W21 (Or.inl ne23)).other W28 (Or.inr (slot_ne (Or.inl (wi hw 18 rfl)) (Or.inl (wi hw 39 rfl)) (by decide) (t := (.array .int)) (t' := .int) (by decide) (by decide)))).other W32 (Or.inr (slot_ne (Or.inl (wi hw 18 rfl)) (Or.inl (wi hw 79 rfl)) (by decide) (t := (.array .int)) (t' := .int) (by decide) (by decide)))).other W37 (Or.inr (slot_ne (Or.inl (wi hw 18 rfl)) (Or.inl (wi hw 81 rfl)) (by decide) (t := (.array .int)) (t' := .long) (by decide) (by decide))))
  have f42 := ((((f18.other W21 (Or.inl ne23)).other W28 (Or.inr (slot_ne (Or.inl (wi hw 21 rfl)) (Or.inl (wi hw 39 rfl)) (by decide) (t := (.array .double)) (t' := .int) (by decide) (by decide)))).other W32 (Or.inr (slot_ne (Or.inl (wi hw 21 rfl)) (Or.inl (wi hw 79 rfl)) (by decide) (t := (.array .double)) (t' := .int) (by decide) (by decide)))).other W37 (Or.inr (slot_ne (Or.inl (wi hw 21 rfl)) (Or.inl (wi hw 81 rfl)) (by decide) (t := (.array .double)) (t' := .long) (by decide) (by decide))))
  rw [e37]
  have f43 := (((f24.other W28 (Or.inr (slot_ne (Or.inr (wi hw 28 rfl)) (Or.inl (wi hw 39 rfl)) (by decide) (t := .boolean) (t' := .int) (by decide) (by decide)))).other W32 (Or.inr (slot_ne (Or.inr (wi hw 28 rfl)) (Or.inl (wi hw 79 rfl)) (by decide) (t := .boolean) (t' := .int) (by decide) (by decide)))).other W37 (Or.inr (slot_ne (Or.inr (wi hw 28 rfl)) (Or.inl (wi hw 81 rfl)) (by decide) (t := .boolean) (t' := .long) (by decide) (by decide))))
  have f44 := ((((((Fq1_4.other W11 (Or.inl ne12)).other W16 (Or.inl ne17)).other W21 (Or.inl ne23)).other W28 (Or.inr (slot_ne (Or.inl (wi hw 26 rfl)) (Or.inl (wi hw 39 rfl)) (by decide) (t := (.array .long)) (t' := .int) (by decide) (by decide)))).other W32 (Or.inr (slot_ne (Or.inl (wi hw 26 rfl)) (Or.inl (wi hw 79 rfl)) (by decide) (t := (.array .long)) (t' := .int) (by decide) (by decide)))).other W37 (Or.inr (slot_ne (Or.inl (wi hw 26 rfl)) (Or.inl (wi hw 81 rfl)) (by decide) (t := (.array .long)) (t' := .long) (by decide) (by decide))))
  have f45 := ((((((Fq7_4.other W11 (Or.inl ne12)).other W16 (Or.inl ne17)).other W21 (Or.inl ne23)).other W28 (Or.inr (slot_ne (Or.inl (wi hw 23 rfl)) (Or.inl (wi hw 39 rfl)) (by decide) (t := (.array .int)) (t' := .int) (by decide) (by decide)))).other W32 (Or.inr (slot_ne (Or.inl (wi hw 23 rfl)) (Or.inl (wi hw 79 rfl)) (by decide) (t := (.array .int)) (t' := .int) (by decide) (by decide)))).other W37 (Or.inr (slot_ne (Or.inl (wi hw 23 rfl)) (Or.inl (wi hw 81 rfl)) (by decide) (t := (.array .int)) (t' := .long) (by decide) (by decide))))
  have f46 := ((F28.other W32 (Or.inr (slot_ne (Or.inl (wi hw 39 rfl)) (Or.inl (wi hw 79 rfl)) (by decide) (t := .int) (t' := .int) (by decide) (by decide)))).other W37 (Or.inr (slot_ne (Or.inl (wi hw 39 rfl)) (Or.inl (wi hw 81 rfl)) (by decide) (t := .int) (t' := .long) (by decide) (by decide))))
  have f47 := (F32.other W37 (Or.inr (slot_ne (Or.inl (wi hw 79 rfl)) (Or.inl (wi hw 81 rfl)) (by decide) (t := .int) (t' := .long) (by decide) (by decide))))
  have f48 := (((((V11.other W16 nqb1_b2_4).other W21 nqb1_b5_4).other W28 (Ne.symm ne12)).other W32 (Ne.symm ne12)).other W37 (Ne.symm ne12))
  have f49 := ((((V16.other W21 nqb2_b5_4).other W28 (Ne.symm ne17)).other W32 (Ne.symm ne17)).other W37 (Ne.symm ne17))
  have ne50 : a1 ≠ b3_4 := Nat.ne_of_lt (Nat.lt_of_lt_of_le P17.lt sqb3_4)
  have f51 := ((((((Fq13_4.other W11 (Ne.symm nqb1_b3_4)).other W16 (Ne.symm nqb2_b3_4)).other W21 nqb3_b5_4).other W28 (Ne.symm ne50)).other W32 (Ne.symm ne50)).other W37 (Ne.symm ne50))
  have ne52 : a1 ≠ b4_4 := Nat.ne_of_lt (Nat.lt_of_lt_of_le P17.lt sqb4_4)
  have f53 := ((((((Fq14_4.other W11 (Ne.symm nqb1_b4_4)).other W16 (Ne.symm nqb2_b4_4)).other W21 nqb4_b5_4).other W28 (Ne.symm ne52)).other W32 (Ne.symm ne52)).other W37 (Ne.symm ne52))
  have f54 := (((V21.other W28 (Ne.symm ne23)).other W32 (Ne.symm ne23)).other W37 (Ne.symm ne23))
  exact ⟨b1_4, b2_4, b3_4, b4_4, b5_4, rfl, N37, (K33.wr W37 (Or.inl (List.mem_of_getElem? (i := 0) rfl))), gqb1_4, s5, gqb2_4, s6, gqb3_4, s7, gqb4_4, s8, gqb5_4, s9, nqb1_b2_4, nqb1_b3_4, nqb1_b4_4, nqb1_b5_4, nqb2_b3_4, nqb2_b4_4, nqb2_b5_4, nqb3_b4_4, nqb3_b5_4, nqb4_b5_4, f43, f44, f38, f39, f40, f41, f42, f45, f46, f47, F37, f48, f49, f51, f53, f54⟩
theorem ef_rm_addB0 (m : MethodId) (x0 : Addr) (x1 : Int32) (x2 : Int32) (x3 : UInt64) (x4 : Int32) : entryFrame m #[(.ref x0), (.int x1), (.int x2), (.double x3), (.int x4)] 7 = mkF m 0 #[.val (.ref x0), .val (.int x1), .val (.int x2), .val (.double x3), .second, .val (.int x4), .unset] [] := by first | (simp [entryFrame, mkF, argsToLocals, Value.category]; done) | rfl
set_option maxRecDepth 65536 in
set_option maxHeartbeats 40000000 in
theorem rm_addB0 (l : Launch) (Z : State) (a0 : Array Value) (hw : ∀ d ∈ tables_1, d.before a0 Z = true) (a1 : Addr) (i1 : Int32) (i2 : Int32) (d1 : UInt64) (i3 : Int32) (x1 : Addr) (x2 : Addr) (x3 : Addr) (x4 : Addr) (x5 : Addr) (x6 : Addr) (x7 : Addr) (g1 : Nat → Int32) (g2 : Nat → Int32) (g5 : Nat → UInt64) (t1 : Int32) (t2 : Int32) (u1 : Int64) (k1 : Nat) (h0 : Heap) (n0 : Nat) (Z0 : n0 ≤ h0.size) (P0 : Exa Z h0 a1 "com/example/edgewise/edgewise/EdgeSlots") (P1 : Fld Z h0 a1 "com/example/edgewise/edgewise/EdgeSlots" "keyed" "Z" (.int (0 : Int32))) (P2 : Fld Z h0 a1 "com/example/edgewise/edgewise/EdgeSlots" "keptNumbers" "[J" (.ref x7)) (P3 : Fld Z h0 a1 "com/example/edgewise/edgewise/EdgeSlots" "sources" "[I" (.ref x1)) (P4 : Fld Z h0 a1 "com/example/edgewise/edgewise/EdgeSlots" "targets" "[I" (.ref x2)) (P5 : Fld Z h0 a1 "com/example/edgewise/edgewise/EdgeSlots" "sourcePositions" "[I" (.ref x3)) (P6 : Fld Z h0 a1 "com/example/edgewise/edgewise/EdgeSlots" "targetPositions" "[I" (.ref x4)) (P7 : Fld Z h0 a1 "com/example/edgewise/edgewise/EdgeSlots" "weights" "[D" (.ref x5)) (P8 : Fld Z h0 a1 "com/example/edgewise/edgewise/EdgeSlots" "keys" "[I" (.ref x6)) (P9 : ArF Z h0 x1 .int 4 (fun i => .int (g1 i))) (P10 : ArF Z h0 x2 .int 4 (fun i => .int (g2 i))) (P11 : ArF Z h0 x5 .double 4 (fun i => .double (g5 i))) (P12 : Fld Z h0 a1 "com/example/edgewise/edgewise/EdgeSlots" "bound" "I" (.int t1)) (P13 : Fld Z h0 a1 "com/example/edgewise/edgewise/EdgeSlots" "count" "I" (.int t2)) (P14 : Fld Z h0 a1 "com/example/edgewise/edgewise/EdgeSlots" "nextNumber" "J" (.long u1)) (ne_x1_a1 : x1 ≠ a1) (ne_x2_a1 : x2 ≠ a1) (ne_x5_a1 : x5 ≠ a1) (ne_x1_x2 : x1 ≠ x2) (ne_x1_x5 : x1 ≠ x5) (ne_x2_x5 : x2 ≠ x5) (ge_a1 : n0 ≤ a1) (ge_x1 : n0 ≤ x1) (ge_x2 : n0 ≤ x2) (ge_x5 : n0 ≤ x5) (hk : t1.toInt = (k1 : Int)) (hbd : k1 < 4) :
    Con l Z (⟨"com/example/edgewise/edgewise/EdgeSlots", "add", "(IIDI)I"⟩ : MethodName) prog_12_method_2_code 7 (some .int) ({ frames := 0, cells := 0, slots := 0, locals := 0 } : Room) #[(.ref a1), (.int i1), (.int i2), (.double d1), (.int i3)] h0 (fun v h L => v = some (.int t1) ∧ Fr n0 L ∧ Keep h0 h [a1, x1, x2, x5] ∧ Fld Z h a1 "com/example/edgewise/edgewise/EdgeSlots" "keyed" "Z" (.int (0 : Int32)) ∧ Fld Z h a1 "com/example/edgewise/edgewise/EdgeSlots" "keptNumbers" "[J" (.ref x7) ∧ Fld Z h a1 "com/example/edgewise/edgewise/EdgeSlots" "sources" "[I" (.ref x1) ∧ Fld Z h a1 "com/example/edgewise/edgewise/EdgeSlots" "targets" "[I" (.ref x2) ∧ Fld Z h a1 "com/example/edgewise/edgewise/EdgeSlots" "sourcePositions" "[I" (.ref x3) ∧ Fld Z h a1 "com/example/edgewise/edgewise/EdgeSlots" "targetPositions" "[I" (.ref x4) ∧ Fld Z h a1 "com/example/edgewise/edgewise/EdgeSlots" "weights" "[D" (.ref x5) ∧ Fld Z h a1 "com/example/edgewise/edgewise/EdgeSlots" "keys" "[I" (.ref x6) ∧ Fld Z h a1 "com/example/edgewise/edgewise/EdgeSlots" "bound" "I" (.int (t1 + (1 : Int32))) ∧ Fld Z h a1 "com/example/edgewise/edgewise/EdgeSlots" "count" "I" (.int (t2 + (1 : Int32))) ∧ Fld Z h a1 "com/example/edgewise/edgewise/EdgeSlots" "nextNumber" "J" (.long (u1 + (1 : Int64))) ∧ ArF Z h x1 .int 4 (fun i => .int ((upI g1 k1 i1) i)) ∧ ArF Z h x2 .int 4 (fun i => .int ((upI g2 k1 i2) i)) ∧ ArF Z h x5 .double 4 (fun i => .double ((upD g5 k1 d1) i))) := by
  refine meet (y := (⟨"com/example/edgewise/edgewise/EdgeSlots", "add", "(IIDI)I"⟩ : MethodName)) (Q := fun v h L => v = some (.int t1) ∧ Fr n0 L ∧ Keep h0 h [a1, x1, x2, x5] ∧ Fld Z h a1 "com/example/edgewise/edgewise/EdgeSlots" "keyed" "Z" (.int (0 : Int32)) ∧ Fld Z h a1 "com/example/edgewise/edgewise/EdgeSlots" "keptNumbers" "[J" (.ref x7) ∧ Fld Z h a1 "com/example/edgewise/edgewise/EdgeSlots" "sources" "[I" (.ref x1) ∧ Fld Z h a1 "com/example/edgewise/edgewise/EdgeSlots" "targets" "[I" (.ref x2) ∧ Fld Z h a1 "com/example/edgewise/edgewise/EdgeSlots" "sourcePositions" "[I" (.ref x3) ∧ Fld Z h a1 "com/example/edgewise/edgewise/EdgeSlots" "targetPositions" "[I" (.ref x4) ∧ Fld Z h a1 "com/example/edgewise/edgewise/EdgeSlots" "weights" "[D" (.ref x5) ∧ Fld Z h a1 "com/example/edgewise/edgewise/EdgeSlots" "keys" "[I" (.ref x6) ∧ Fld Z h a1 "com/example/edgewise/edgewise/EdgeSlots" "bound" "I" (.int (t1 + (1 : Int32))) ∧ Fld Z h a1 "com/example/edgewise/edgewise/EdgeSlots" "count" "I" (.int (t2 + (1 : Int32))) ∧ Fld Z h a1 "com/example/edgewise/edgewise/EdgeSlots" "nextNumber" "J" (.long (u1 + (1 : Int64))) ∧ ArF Z h x1 .int 4 (fun i => .int ((upI g1 k1 i1) i)) ∧ ArF Z h x2 .int 4 (fun i => .int ((upI g2 k1 i2) i)) ∧ ArF Z h x5 .double 4 (fun i => .double ((upD g5 k1 d1) i))) (plainFor_of_name pn_com_example_edgewise_edgewise_EdgeSlots) (fun m => ef_rm_addB0 m a1 i1 i2 d1 i3) ?_
  intro p e s m below meth c T0 hx hby hml hZ hown hnm hret hlk X0 e0
  have N0 := Fr.nil n0
  have K0 := Keep.refl h0 [a1, x1, x2, x5]
  refine g_aloadN X0 hx hby d5_0 (pc' := 1) rfl rfl rfl ?_
  refine g_getf X0 hx hby hZ hown (host := "") (Or.inl (wi hw 38 rfl)) Via.refl e0 P12 d5_1 (pc' := 4) rfl ?_
  intro T1 X1 e1
  refine g_istore X1 hx hby d5_4 (pc' := 6) rfl (L' := #[.val (.ref a1), .val (.int i1), .val (.int i2), .val (.double d1), .second, .val (.int i3), .val (.int t1)]) rfl ?_
  refine g_iload X1 hx hby d5_6 (pc' := 8) rfl rfl ?_
  refine g_aloadN X1 hx hby d5_8 (pc' := 9) rfl rfl rfl ?_
  refine g_getf X1 hx hby hZ hown (host := "") (Or.inl (wi hw 11 rfl)) Via.refl e1 P3 d5_9 (pc' := 12) rfl ?_
  intro T2 X2 e2
  refine Go.alen X2 hx hZ e2 P9 (hb hby d5_12) ?_
  show Go p.tables e below s _ _ _ (T2.setTop (mkF m 13 #[.val (.ref a1), .val (.int i1), .val (.int i2), .val (.double d1), .second, .val (.int i3), .val (.int t1)] [(.int (4 : Int32)), (.int t1)]))
  have hc13 : ¬ (t1.toInt = (4 : Int)) := by omega
  refine g_icmpYes X2 hx hby d5_13 (pc' := 25) (feq (show ¬ (t1 = (4 : Int32)) from fun q => hc13 (congrArg Int32.toInt q))).2 (by decide) (by decide) ?_
  refine g_aloadN X2 hx hby d5_25 (pc' := 26) rfl rfl rfl ?_
  refine g_getf X2 hx hby hZ hown (host := "") (Or.inl (wi hw 11 rfl)) Via.refl e2 P3 d5_26 (pc' := 29) rfl ?_
  intro T3 X3 e3
  refine g_iload X3 hx hby d5_29 (pc' := 31) rfl rfl ?_
  refine g_iloadN X3 hx hby d5_31 (pc' := 32) rfl rfl ?_
  refine Go.iastore X3 hx hZ e3 P9 (k := k1) hk hbd (hb hby d5_32) ?_
  intro T4 h4 X4 e4 W4 V4
  show Go p.tables e below s _ _ _ (T4.setTop (mkF m 33 #[.val (.ref a1), .val (.int i1), .val (.int i2), .val (.double d1), .second, .val (.int i3), .val (.int t1)] []))
  refine g_aloadN X4 hx hby d5_33 (pc' := 34) rfl rfl rfl ?_
  have f5 := (P4.other W4 (Or.inl (Ne.symm ne_x1_a1)))
  refine g_getf X4 hx hby hZ hown (host := "") (Or.inl (wi hw 13 rfl)) Via.refl e4 f5 d5_34 (pc' := 37) rfl ?_
  intro T6 X6 e6
  refine g_iload X6 hx hby d5_37 (pc' := 39) rfl rfl ?_
  refine g_iloadN X6 hx hby d5_39 (pc' := 40) rfl rfl ?_
  have f7 := (P10.other W4 (Ne.symm ne_x1_x2))
  refine Go.iastore X6 hx hZ e6 f7 (k := k1) hk hbd (hb hby d5_40) ?_
  intro T8 h8 X8 e8 W8 V8
  show Go p.tables e below s _ _ _ (T8.setTop (mkF m 41 #[.val (.ref a1), .val (.int i1), .val (.int i2), .val (.double d1), .second, .val (.int i3), .val (.int t1)] []))
  refine g_aloadN X8 hx hby d5_41 (pc' := 42) rfl rfl rfl ?_
  have f9 := ((P7.other W4 (Or.inl (Ne.symm ne_x1_a1))).other W8 (Or.inl (Ne.symm ne_x2_a1)))
  refine g_getf X8 hx hby hZ hown (host := "") (Or.inl (wi hw 20 rfl)) Via.refl e8 f9 d5_42 (pc' := 45) rfl ?_
  intro T10 X10 e10
  refine g_iload X10 hx hby d5_45 (pc' := 47) rfl rfl ?_
  refine g_dloadN X10 hx hby d5_47 (pc' := 48) rfl rfl ?_
  have f11 := ((P11.other W4 (Ne.symm ne_x1_x5)).other W8 (Ne.symm ne_x2_x5))
  refine Go.dastore X10 hx hZ e10 f11 (k := k1) hk hbd (hb hby d5_48) ?_
  intro T12 h12 X12 e12 W12 V12
  show Go p.tables e below s _ _ _ (T12.setTop (mkF m 49 #[.val (.ref a1), .val (.int i1), .val (.int i2), .val (.double d1), .second, .val (.int i3), .val (.int t1)] []))
  refine g_aloadN X12 hx hby d5_49 (pc' := 50) rfl rfl rfl ?_
  have f13 := (((P1.other W4 (Or.inl (Ne.symm ne_x1_a1))).other W8 (Or.inl (Ne.symm ne_x2_a1))).other W12 (Or.inl (Ne.symm ne_x5_a1)))
  refine g_getf X12 hx hby hZ hown (host := "") (Or.inl (wi hw 27 rfl)) Via.refl e12 f13 d5_50 (pc' := 53) rfl ?_
  intro T14 X14 e14
  have hc53 : (0 : Int) = (0 : Int) := by decide
  refine g_ifYes X14 hx hby d5_53 (pc' := 65) (teq (show (0 : Int32) = (0 : Int32) from Int32.toInt_inj.mp hc53)).1 (by decide) (by decide) ?_
  refine g_aloadN X14 hx hby d5_65 (pc' := 66) rfl rfl rfl ?_
  refine g_iload X14 hx hby d5_66 (pc' := 68) rfl rfl ?_
  refine g_iconst X14 hx hby d5_68 (pc' := 69) rfl (z := (1 : Int32)) rfl ?_
  refine g_iadd X14 hx hby d5_69 (pc' := 70) rfl rfl ?_
  have f15 := (((P12.other W4 (Or.inl (Ne.symm ne_x1_a1))).other W8 (Or.inl (Ne.symm ne_x2_a1))).other W12 (Or.inl (Ne.symm ne_x5_a1)))
  have f16 := (((P0.wr W4).wr W8).wr W12)
  refine g_putf X14 hx hby hZ hown (host := "") (Or.inl (wi hw 38 rfl)) Via.refl e14 f15 f16 (Or.inl (wi hw 39 rfl)) (wi hw 2 rfl) (ty := .int) (by decide) rfl rfl d5_70 (pc' := 73) rfl ?_
  intro T17 h17 X17 e17 W17 F17
  have z18 : n0 ≤ h17.size := (Nat.le_trans (Nat.le_trans (Nat.le_trans (Nat.le_trans Z0 (Nat.le_of_eq (Wr.size W4).symm)) (Nat.le_of_eq (Wr.size W8).symm)) (Nat.le_of_eq (Wr.size W12).symm)) (Nat.le_of_eq (Wr.size W17).symm))
  have K19 : Keep h0 h17 [a1, x1, x2, x5] := ((((K0.wr W4 (Or.inl (List.mem_of_getElem? (i := 1) rfl))).wr W8 (Or.inl (List.mem_of_getElem? (i := 2) rfl))).wr W12 (Or.inl (List.mem_of_getElem? (i := 3) rfl))).wr W17 (Or.inl (List.mem_of_getElem? (i := 0) rfl)))
  refine g_aloadN X17 hx hby d5_73 (pc' := 74) rfl rfl rfl ?_
  refine g_dup X17 hx hby d5_74 (pc' := 75) rfl rfl ?_
  have f20 := ((((P13.other W4 (Or.inl (Ne.symm ne_x1_a1))).other W8 (Or.inl (Ne.symm ne_x2_a1))).other W12 (Or.inl (Ne.symm ne_x5_a1))).other W17 (Or.inr (slot_ne (Or.inl (wi hw 79 rfl)) (Or.inl (wi hw 39 rfl)) (by decide) (t := .int) (t' := .int) (by decide) (by decide))))
  refine g_getf X17 hx hby hZ hown (host := "") (Or.inl (wi hw 78 rfl)) Via.refl e17 f20 d5_75 (pc' := 78) rfl ?_
  intro T21 X21 e21
  refine g_iconst X21 hx hby d5_78 (pc' := 79) rfl (z := (1 : Int32)) rfl ?_
  refine g_iadd X21 hx hby d5_79 (pc' := 80) rfl rfl ?_
  have f22 := f16.wr W17
  refine g_putf X21 hx hby hZ hown (host := "") (Or.inl (wi hw 78 rfl)) Via.refl e21 f20 f22 (Or.inl (wi hw 79 rfl)) (wi hw 2 rfl) (ty := .int) (by decide) rfl rfl d5_80 (pc' := 83) rfl ?_
  intro T23 h23 X23 e23 W23 F23
  refine g_aloadN X23 hx hby d5_83 (pc' := 84) rfl rfl rfl ?_
  refine g_dup X23 hx hby d5_84 (pc' := 85) rfl rfl ?_
  have f24 := (((((P14.other W4 (Or.inl (Ne.symm ne_x1_a1))).other W8 (Or.inl (Ne.symm ne_x2_a1))).other W12 (Or.inl (Ne.symm ne_x5_a1))).other W17 (Or.inr (slot_ne (Or.inl (wi hw 81 rfl)) (Or.inl (wi hw 39 rfl)) (by decide) (t := .long) (t' := .int) (by decide) (by decide)))).other W23 (Or.inr (slot_ne (Or.inl (wi hw 81 rfl)) (Or.inl (wi hw 79 rfl)) (by decide) (t := .long) (t' := .int) (by decide) (by decide))))
  refine g_getf X23 hx hby hZ hown (host := "") (Or.inl (wi hw 80 rfl)) Via.refl e23 f24 d5_85 (pc' := 88) rfl ?_
  intro T25 X25 e25
  refine Go.of (fun _ k => XS.lconst X25.here hx rfl (hb hby d5_88) k) ?_
  show Go p.tables e below s _ _ _ (T25.setTop (mkF m 89 #[.val (.ref a1), .val (.int i1), .val (.int i2), .val (.double d1), .second, .val (.int i3), .val (.int t1)] [(.long (1 : Int64)), (.long u1), (.ref a1)]))
  refine g_ladd X25 hx hby d5_89 (pc' := 90) rfl rfl ?_
  have f26 := f22.wr W23
  refine g_putf X25 hx hby hZ hown (host := "") (Or.inl (wi hw 80 rfl)) Via.refl e25 f24 f26 (Or.inl (wi hw 81 rfl)) (wi hw 2 rfl) (ty := .long) (by decide) rfl rfl d5_90 (pc' := 93) rfl ?_
  intro T27 h27 X27 e27 W27 F27
  refine g_iload X27 hx hby d5_93 (pc' := 95) rfl rfl ?_
  refine Go.retI X27 hx hlk hret (hb hby d5_95) (by decide) (by decide) ?_
  rw [e27]
  have f28 := (((f13.other W17 (Or.inr (slot_ne (Or.inr (wi hw 28 rfl)) (Or.inl (wi hw 39 rfl)) (by decide) (t := .boolean) (t' := .int) (by decide) (by decide)))).other W23 (Or.inr (slot_ne (Or.inr (wi hw 28 rfl)) (Or.inl (wi hw 79 rfl)) (by decide) (t := .boolean) (t' := .int) (by decide) (by decide)))).other W27 (Or.inr (slot_ne (Or.inr (wi hw 28 rfl)) (Or.inl (wi hw 81 rfl)) (by decide) (t := .boolean) (t' := .long) (by decide) (by decide))))
  have f29 := ((((((P2.other W4 (Or.inl (Ne.symm ne_x1_a1))).other W8 (Or.inl (Ne.symm ne_x2_a1))).other W12 (Or.inl (Ne.symm ne_x5_a1))).other W17 (Or.inr (slot_ne (Or.inl (wi hw 26 rfl)) (Or.inl (wi hw 39 rfl)) (by decide) (t := (.array .long)) (t' := .int) (by decide) (by decide)))).other W23 (Or.inr (slot_ne (Or.inl (wi hw 26 rfl)) (Or.inl (wi hw 79 rfl)) (by decide) (t := (.array .long)) (t' := .int) (by decide) (by decide)))).other W27 (Or.inr (slot_ne (Or.inl (wi hw 26 rfl)) (Or.inl (wi hw 81 rfl)) (by decide) (t := (.array .long)) (t' := .long) (by decide) (by decide))))
  have f30 := ((((((P3.other W4 (Or.inl (Ne.symm ne_x1_a1))).other W8 (Or.inl (Ne.symm ne_x2_a1))).other W12 (Or.inl (Ne.symm ne_x5_a1))).other W17 (Or.inr (slot_ne (Or.inl (wi hw 12 rfl)) (Or.inl (wi hw 39 rfl)) (by decide) (t := (.array .int)) (t' := .int) (by decide) (by decide)))).other W23 (Or.inr (slot_ne (Or.inl (wi hw 12 rfl)) (Or.inl (wi hw 79 rfl)) (by decide) (t := (.array .int)) (t' := .int) (by decide) (by decide)))).other W27 (Or.inr (slot_ne (Or.inl (wi hw 12 rfl)) (Or.inl (wi hw 81 rfl)) (by decide) (t := (.array .int)) (t' := .long) (by decide) (by decide))))
  have f31 := (((((f5.other W8 (Or.inl (Ne.symm ne_x2_a1))).other W12 (Or.inl (Ne.symm ne_x5_a1))).other W17 (Or.inr (slot_ne (Or.inl (wi hw 14 rfl)) (Or.inl (wi hw 39 rfl)) (by decide) (t := (.array .int)) (t' := .int) (by decide) (by decide)))).other W23 (Or.inr (slot_ne (Or.inl (wi hw 14 rfl)) (Or.inl (wi hw 79 rfl)) (by decide) (t := (.array .int)) (t' := .int) (by decide) (by decide)))).other W27 (Or.inr (slot_ne (Or.inl (wi hw 14 rfl)) (Or.inl (wi hw 81 rfl)) (by decide) (t := (.array .int)) (t' := .long) (by decide) (by decide))))
  have f32 := ((((((P5.other W4 (Or.inl (Ne.symm ne_x1_a1))).other W8 (Or.inl (Ne.symm ne_x2_a1))).other W12 (Or.inl (Ne.symm ne_x5_a1))).other W17 (Or.inr (slot_ne (Or.inl (wi hw 16 rfl)) (Or.inl (wi hw 39 rfl)) (by decide) (t := (.array .int)) (t' := .int) (by decide) (by decide)))).other W23 (Or.inr (slot_ne (Or.inl (wi hw 16 rfl)) (Or.inl (wi hw 79 rfl)) (by decide) (t := (.array .int)) (t' := .int) (by decide) (by decide)))).other W27 (Or.inr (slot_ne (Or.inl (wi hw 16 rfl)) (Or.inl (wi hw 81 rfl)) (by decide) (t := (.array .int)) (t' := .long) (by decide) (by decide))))
  have f33 := ((((((P6.other W4 (Or.inl (Ne.symm ne_x1_a1))).other W8 (Or.inl (Ne.symm ne_x2_a1))).other W12 (Or.inl (Ne.symm ne_x5_a1))).other W17 (Or.inr (slot_ne (Or.inl (wi hw 18 rfl)) (Or.inl (wi hw 39 rfl)) (by decide) (t := (.array .int)) (t' := .int) (by decide) (by decide)))).other W23 (Or.inr (slot_ne (Or.inl (wi hw 18 rfl)) (Or.inl (wi hw 79 rfl)) (by decide) (t := (.array .int)) (t' := .int) (by decide) (by decide)))).other W27 (Or.inr (slot_ne (Or.inl (wi hw 18 rfl)) (Or.inl (wi hw 81 rfl)) (by decide) (t := (.array .int)) (t' := .long) (by decide) (by decide))))
  have f34 := ((((f9.other W12 (Or.inl (Ne.symm ne_x5_a1))).other W17 (Or.inr (slot_ne (Or.inl (wi hw 21 rfl)) (Or.inl (wi hw 39 rfl)) (by decide) (t := (.array .double)) (t' := .int) (by decide) (by decide)))).other W23 (Or.inr (slot_ne (Or.inl (wi hw 21 rfl)) (Or.inl (wi hw 79 rfl)) (by decide) (t := (.array .double)) (t' := .int) (by decide) (by decide)))).other W27 (Or.inr (slot_ne (Or.inl (wi hw 21 rfl)) (Or.inl (wi hw 81 rfl)) (by decide) (t := (.array .double)) (t' := .long) (by decide) (by decide))))
  have f35 := ((((((P8.other W4 (Or.inl (Ne.symm ne_x1_a1))).other W8 (Or.inl (Ne.symm ne_x2_a1))).other W12 (Or.inl (Ne.symm ne_x5_a1))).other W17 (Or.inr (slot_ne (Or.inl (wi hw 23 rfl)) (Or.inl (wi hw 39 rfl)) (by decide) (t := (.array .int)) (t' := .int) (by decide) (by decide)))).other W23 (Or.inr (slot_ne (Or.inl (wi hw 23 rfl)) (Or.inl (wi hw 79 rfl)) (by decide) (t := (.array .int)) (t' := .int) (by decide) (by decide)))).other W27 (Or.inr (slot_ne (Or.inl (wi hw 23 rfl)) (Or.inl (wi hw 81 rfl)) (by decide) (t := (.array .int)) (t' := .long) (by decide) (by decide))))
  have f36 := ((F17.other W23 (Or.inr (slot_ne (Or.inl (wi hw 39 rfl)) (Or.inl (wi hw 79 rfl)) (by decide) (t := .int) (t' := .int) (by decide) (by decide)))).other W27 (Or.inr (slot_ne (Or.inl (wi hw 39 rfl)) (Or.inl (wi hw 81 rfl)) (by decide) (t := .int) (t' := .long) (by decide) (by decide))))
  have f37 := (F23.other W27 (Or.inr (slot_ne (Or.inl (wi hw 79 rfl)) (Or.inl (wi hw 81 rfl)) (by decide) (t := .int) (t' := .long) (by decide) (by decide))))
  have f38 := (((((V4.other W8 ne_x1_x2).other W12 ne_x1_x5).other W17 ne_x1_a1).other W23 ne_x1_a1).other W27 ne_x1_a1)
  have f39 := ((((V8.other W12 ne_x2_x5).other W17 ne_x2_a1).other W23 ne_x2_a1).other W27 ne_x2_a1)
  have f40 := (((V12.other W17 ne_x5_a1).other W23 ne_x5_a1).other W27 ne_x5_a1)
  exact ⟨rfl, (Fr.snoc X27 (Fr.snoc X23 (Fr.snoc X17 (Fr.snoc X12 (Fr.snoc X8 (Fr.snoc X4 N0 ge_x1) ge_x2) ge_x5) ge_a1) ge_a1) ge_a1), ((K19.wr W23 (Or.inl (List.mem_of_getElem? (i := 0) rfl))).wr W27 (Or.inl (List.mem_of_getElem? (i := 0) rfl))), f28, f29, f30, f31, f32, f33, f34, f35, f36, f37, F27, f38, f39, f40⟩
theorem d9_67 : decode prog_12_method_22_code 67 = .ok (.aload_n 0, 1) := by decide +kernel
theorem d9_68 : decode prog_12_method_22_code 68 = .ok (.aload_n 0, 1) := by decide +kernel
theorem d9_69 : decode prog_12_method_22_code 69 = .ok (.getfield 26, 3) := by decide +kernel
theorem d9_72 : decode prog_12_method_22_code 72 = .ok (.iload_n 1, 1) := by decide +kernel
theorem d9_73 : decode prog_12_method_22_code 73 = .ok (.invokestatic 87, 3) := by decide +kernel
theorem d9_76 : decode prog_12_method_22_code 76 = .ok (.putfield 26, 3) := by decide +kernel
theorem ef_rm_resize1 (m : MethodId) (x0 : Addr) : entryFrame m #[(.ref x0), (.int (4 : Int32))] 2 = mkF m 0 #[.val (.ref x0), .val (.int (4 : Int32))] [] := by first | (simp [entryFrame, mkF, argsToLocals, Value.category]; done) | rfl
set_option maxRecDepth 65536 in
set_option maxHeartbeats 40000000 in
theorem rm_resize1 (l : Launch) (Z : State) (a0 : Array Value) (hw : ∀ d ∈ tables_1, d.before a0 Z = true) (a1 : Addr) (x1 : Addr) (x2 : Addr) (x3 : Addr) (x4 : Addr) (x5 : Addr) (x6 : Addr) (x7 : Addr) (g1 : Nat → Int32) (g2 : Nat → Int32) (g3 : Nat → Int32) (g4 : Nat → Int32) (g5 : Nat → UInt64) (g6 : Nat → Int32) (t1 : Int32) (t2 : Int32) (u1 : Int64) (h0 : Heap) (n0 : Nat) (Z0 : n0 ≤ h0.size) (P0 : Exa Z h0 a1 "com/example/edgewise/edgewise/EdgeSlots") (P1 : Fld Z h0 a1 "com/example/edgewise/edgewise/EdgeSlots" "keyed" "Z" (.int (1 : Int32))) (P2 : Fld Z h0 a1 "com/example/edgewise/edgewise/EdgeSlots" "keptNumbers" "[J" (.ref x7)) (P3 : Fld Z h0 a1 "com/example/edgewise/edgewise/EdgeSlots" "sources" "[I" (.ref x1)) (P4 : Fld Z h0 a1 "com/example/edgewise/edgewise/EdgeSlots" "targets" "[I" (.ref x2)) (P5 : Fld Z h0 a1 "com/example/edgewise/edgewise/EdgeSlots" "sourcePositions" "[I" (.ref x3)) (P6 : Fld Z h0 a1 "com/example/edgewise/edgewise/EdgeSlots" "targetPositions" "[I" (.ref x4)) (P7 : Fld Z h0 a1 "com/example/edgewise/edgewise/EdgeSlots" "weights" "[D" (.ref x5)) (P8 : Fld Z h0 a1 "com/example/edgewise/edgewise/EdgeSlots" "keys" "[I" (.ref x6)) (P9 : ArF Z h0 x1 .int 0 (fun i => .int (g1 i))) (P10 : ArF Z h0 x2 .int 0 (fun i => .int (g2 i))) (P11 : ArF Z h0 x3 .int 0 (fun i => .int (g3 i))) (P12 : ArF Z h0 x4 .int 0 (fun i => .int (g4 i))) (P13 : ArF Z h0 x5 .double 0 (fun i => .double (g5 i))) (P14 : ArF Z h0 x6 .int 0 (fun i => .int (g6 i))) (P15 : Fld Z h0 a1 "com/example/edgewise/edgewise/EdgeSlots" "bound" "I" (.int t1)) (P16 : Fld Z h0 a1 "com/example/edgewise/edgewise/EdgeSlots" "count" "I" (.int t2)) (P17 : Fld Z h0 a1 "com/example/edgewise/edgewise/EdgeSlots" "nextNumber" "J" (.long u1)) (ne_x1_a1 : x1 ≠ a1) (ne_x2_a1 : x2 ≠ a1) (ne_x3_a1 : x3 ≠ a1) (ne_x4_a1 : x4 ≠ a1) (ne_x5_a1 : x5 ≠ a1) (ne_x6_a1 : x6 ≠ a1) (ge_a1 : n0 ≤ a1) :
    Con l Z (⟨"com/example/edgewise/edgewise/EdgeSlots", "resize", "(I)V"⟩ : MethodName) prog_12_method_22_code 2 none ({ frames := 2, cells := 6, slots := 24, locals := 55 } : Room) #[(.ref a1), (.int (4 : Int32))] h0 (fun v h L => ∃ (b1 : Addr) (b2 : Addr) (b3 : Addr) (b4 : Addr) (b5 : Addr) (b6 : Addr), v = none ∧ Fr n0 L ∧ Keep h0 h [a1] ∧ n0 ≤ b1 ∧ h0.size ≤ b1 ∧ n0 ≤ b2 ∧ h0.size ≤ b2 ∧ n0 ≤ b3 ∧ h0.size ≤ b3 ∧ n0 ≤ b4 ∧ h0.size ≤ b4 ∧ n0 ≤ b5 ∧ h0.size ≤ b5 ∧ n0 ≤ b6 ∧ h0.size ≤ b6 ∧ b1 ≠ b2 ∧ b1 ≠ b3 ∧ b1 ≠ b4 ∧ b1 ≠ b5 ∧ b1 ≠ b6 ∧ b2 ≠ b3 ∧ b2 ≠ b4 ∧ b2 ≠ b5 ∧ b2 ≠ b6 ∧ b3 ≠ b4 ∧ b3 ≠ b5 ∧ b3 ≠ b6 ∧ b4 ≠ b5 ∧ b4 ≠ b6 ∧ b5 ≠ b6 ∧ Fld Z h a1 "com/example/edgewise/edgewise/EdgeSlots" "keyed" "Z" (.int (1 : Int32)) ∧ Fld Z h a1 "com/example/edgewise/edgewise/EdgeSlots" "keptNumbers" "[J" (.ref x7) ∧ Fld Z h a1 "com/example/edgewise/edgewise/EdgeSlots" "sources" "[I" (.ref b1) ∧ Fld Z h a1 "com/example/edgewise/edgewise/EdgeSlots" "targets" "[I" (.ref b2) ∧ Fld Z h a1 "com/example/edgewise/edgewise/EdgeSlots" "sourcePositions" "[I" (.ref b3) ∧ Fld Z h a1 "com/example/edgewise/edgewise/EdgeSlots" "targetPositions" "[I" (.ref b4) ∧ Fld Z h a1 "com/example/edgewise/edgewise/EdgeSlots" "weights" "[D" (.ref b5) ∧ Fld Z h a1 "com/example/edgewise/edgewise/EdgeSlots" "keys" "[I" (.ref b6) ∧ Fld Z h a1 "com/example/edgewise/edgewise/EdgeSlots" "bound" "I" (.int t1) ∧ Fld Z h a1 "com/example/edgewise/edgewise/EdgeSlots" "count" "I" (.int t2) ∧ Fld Z h a1 "com/example/edgewise/edgewise/EdgeSlots" "nextNumber" "J" (.long u1) ∧ ArF Z h b1 .int 4 (fun i => .int ((fun _ => (0 : Int32)) i)) ∧ ArF Z h b2 .int 4 (fun i => .int ((fun _ => (0 : Int32)) i)) ∧ ArF Z h b3 .int 4 (fun i => .int ((fun _ => (0 : Int32)) i)) ∧ ArF Z h b4 .int 4 (fun i => .int ((fun _ => (0 : Int32)) i)) ∧ ArF Z h b5 .double 4 (fun i => .double ((fun _ => (0 : UInt64)) i)) ∧ ArF Z h b6 .int 4 (fun i => .int ((fun _ => (0 : Int32)) i))) := by
  refine meet (y := (⟨"com/example/edgewise/edgewise/EdgeSlots", "resize", "(I)V"⟩ : MethodName)) (Q := fun v h L => ∃ (b1 : Addr) (b2 : Addr) (b3 : Addr) (b4 : Addr) (b5 : Addr) (b6 : Addr), v = none ∧ Fr n0 L ∧ Keep h0 h [a1] ∧ n0 ≤ b1 ∧ h0.size ≤ b1 ∧ n0 ≤ b2 ∧ h0.size ≤ b2 ∧ n0 ≤ b3 ∧ h0.size ≤ b3 ∧ n0 ≤ b4 ∧ h0.size ≤ b4 ∧ n0 ≤ b5 ∧ h0.size ≤ b5 ∧ n0 ≤ b6 ∧ h0.size ≤ b6 ∧ b1 ≠ b2 ∧ b1 ≠ b3 ∧ b1 ≠ b4 ∧ b1 ≠ b5 ∧ b1 ≠ b6 ∧ b2 ≠ b3 ∧ b2 ≠ b4 ∧ b2 ≠ b5 ∧ b2 ≠ b6 ∧ b3 ≠ b4 ∧ b3 ≠ b5 ∧ b3 ≠ b6 ∧ b4 ≠ b5 ∧ b4 ≠ b6 ∧ b5 ≠ b6 ∧ Fld Z h a1 "com/example/edgewise/edgewise/EdgeSlots" "keyed" "Z" (.int (1 : Int32)) ∧ Fld Z h a1 "com/example/edgewise/edgewise/EdgeSlots" "keptNumbers" "[J" (.ref x7) ∧ Fld Z h a1 "com/example/edgewise/edgewise/EdgeSlots" "sources" "[I" (.ref b1) ∧ Fld Z h a1 "com/example/edgewise/edgewise/EdgeSlots" "targets" "[I" (.ref b2) ∧ Fld Z h a1 "com/example/edgewise/edgewise/EdgeSlots" "sourcePositions" "[I" (.ref b3) ∧ Fld Z h a1 "com/example/edgewise/edgewise/EdgeSlots" "targetPositions" "[I" (.ref b4) ∧ Fld Z h a1 "com/example/edgewise/edgewise/EdgeSlots" "weights" "[D" (.ref b5) ∧ Fld Z h a1 "com/example/edgewise/edgewise/EdgeSlots" "keys" "[I" (.ref b6) ∧ Fld Z h a1 "com/example/edgewise/edgewise/EdgeSlots" "bound" "I" (.int t1) ∧ Fld Z h a1 "com/example/edgewise/edgewise/EdgeSlots" "count" "I" (.int t2) ∧ Fld Z h a1 "com/example/edgewise/edgewise/EdgeSlots" "nextNumber" "J" (.long u1) ∧ ArF Z h b1 .int 4 (fun i => .int ((fun _ => (0 : Int32)) i)) ∧ ArF Z h b2 .int 4 (fun i => .int ((fun _ => (0 : Int32)) i)) ∧ ArF Z h b3 .int 4 (fun i => .int ((fun _ => (0 : Int32)) i)) ∧ ArF Z h b4 .int 4 (fun i => .int ((fun _ => (0 : Int32)) i)) ∧ ArF Z h b5 .double 4 (fun i => .double ((fun _ => (0 : UInt64)) i)) ∧ ArF Z h b6 .int 4 (fun i => .int ((fun _ => (0 : Int32)) i))) (plainFor_of_name pn_com_example_edgewise_edgewise_EdgeSlots) (fun m => ef_rm_resize1 m a1) ?_
  intro p e s m below meth c T0 hx hby hml hZ hown hnm hret hlk X0 e0
  have N0 := Fr.nil n0
  have K0 := Keep.refl h0 [a1]
  refine g_aloadN X0 hx hby d9_0 (pc' := 1) rfl rfl rfl ?_
  refine g_aloadN X0 hx hby d9_1 (pc' := 2) rfl rfl rfl ?_
  refine g_getf X0 hx hby hZ hown (host := "") (Or.inl (wi hw 11 rfl)) Via.refl e0 P3 d9_2 (pc' := 5) rfl ?_
  intro T1 X1 e1
  refine g_iloadN X1 hx hby d9_5 (pc' := 6) rfl rfl ?_
  refine Go.callS X1 hx hZ (y := (⟨"java/util/Arrays", "copyOf", "([II)[I"⟩ : MethodName)) hown (wi hw 64 rfl) (wi hw 65 rfl) (wi hw 66 rfl) (wi hw 67 rfl) (by decide) e1 (argsL := [(.ref x1), (.int (4 : Int32))]) (rest := [(.ref a1)]) (W := 1) (rm_copyI l Z a0 hw x1 g1 h0 n0 Z0 P9) (hb hby d9_6) (by rw [hml]; rfl) rfl pd_ayIIzyI rfl rfl (by decide) (by decide) (by decide) (by decide) ?_
  intro v2 T2 L2 X2 hQ2
  obtain ⟨h2, e2⟩ : ∃ z, T2.heap = z := ⟨_, rfl⟩
  rw [e2] at hQ2
  obtain ⟨b1_2, rfl, Nq2, Kq2, gqb1_2, sqb1_2, Fq0_2⟩ := hQ2
  have N2 := Fr.app N0 Nq2
  have s3 : h0.size ≤ b1_2 := Nat.le_trans K0.1 sqb1_2
  show Go p.tables e below s _ _ _ (T2.setTop (mkF m 9 #[.val (.ref a1), .val (.int (4 : Int32))] [(.ref b1_2), (.ref a1)]))
  have f4 := P3.keep Kq2 nin0
  have f5 := P0.keep Kq2
  refine g_putf X2 hx hby hZ hown (host := "") (Or.inl (wi hw 11 rfl)) Via.refl e2 f4 f5 (Or.inl (wi hw 12 rfl)) (wi hw 2 rfl) (ty := (.array .int)) (by decide) rfl rfl d9_9 (pc' := 12) rfl ?_
  intro T6 h6 X6 e6 W6 F6
  refine g_aloadN X6 hx hby d9_12 (pc' := 13) rfl rfl rfl ?_
  refine g_aloadN X6 hx hby d9_13 (pc' := 14) rfl rfl rfl ?_
  have f7 := ((P4.keep Kq2 nin0).other W6 (Or.inr (slot_ne (Or.inl (wi hw 14 rfl)) (Or.inl (wi hw 12 rfl)) (by decide) (t := (.array .int)) (t' := (.array .int)) (by decide) (by decide))))
  refine g_getf X6 hx hby hZ hown (host := "") (Or.inl (wi hw 13 rfl)) Via.refl e6 f7 d9_14 (pc' := 17) rfl ?_
  intro T8 X8 e8
  refine g_iloadN X8 hx hby d9_17 (pc' := 18) rfl rfl ?_
  have f10 := ((P10.keep Kq2 nin0).other W6 ne_x2_a1)
  refine Go.callS X8 hx hZ (y := (⟨"java/util/Arrays", "copyOf", "([II)[I"⟩ : MethodName)) hown (wi hw 64 rfl) (wi hw 65 rfl) (wi hw 66 rfl) (wi hw 67 rfl) (by decide) e8 (argsL := [(.ref x2), (.int (4 : Int32))]) (rest := [(.ref a1)]) (W := 1) (rm_copyI l Z a0 hw x2 g2 h6 n0 (Nat.le_trans (Nat.le_trans Z0 Kq2.1) (Nat.le_of_eq (Wr.size W6).symm)) f10) (hb hby d9_18) (by rw [hml]; rfl) rfl pd_ayIIzyI rfl rfl (by decide) (by decide) (by decide) (by decide) ?_
  intro v9 T9 L9 X9 hQ9
  obtain ⟨h9, e9⟩ : ∃ z, T9.heap = z := ⟨_, rfl⟩
  rw [e9] at hQ9
  obtain ⟨b1_9, rfl, Nq9, Kq9, gqb1_9, sqb1_9, Fq0_9⟩ := hQ9
  have N9 := Fr.app (Fr.snoc X6 N2 ge_a1) Nq9
  have s11 : h0.size ≤ b1_9 := Nat.le_trans ((K0.trans Kq2 all0).wr W6 (Or.inl (List.mem_of_getElem? (i := 0) rfl))).1 sqb1_9
  show Go p.tables e below s _ _ _ (T9.setTop (mkF m 21 #[.val (.ref a1), .val (.int (4 : Int32))] [(.ref b1_9), (.ref a1)]))
  have f12 := f7.keep Kq9 nin0
  have f13 := ((f5.wr W6).keep Kq9)
  refine g_putf X9 hx hby hZ hown (host := "") (Or.inl (wi hw 13 rfl)) Via.refl e9 f12 f13 (Or.inl (wi hw 14 rfl)) (wi hw 2 rfl) (ty := (.array .int)) (by decide) rfl rfl d9_21 (pc' := 24) rfl ?_
  intro T14 h14 X14 e14 W14 F14
  refine g_aloadN X14 hx hby d9_24 (pc' := 25) rfl rfl rfl ?_
  refine g_aloadN X14 hx hby d9_25 (pc' := 26) rfl rfl rfl ?_
  have f15 := ((((P5.keep Kq2 nin0).other W6 (Or.inr (slot_ne (Or.inl (wi hw 16 rfl)) (Or.inl (wi hw 12 rfl)) (by decide) (t := (.array .int)) (t' := (.array .int)) (by decide) (by decide)))).keep Kq9 nin0).other W14 (Or.inr (slot_ne (Or.inl (wi hw 16 rfl)) (Or.inl (wi hw 14 rfl)) (by decide) (t := (.array .int)) (t' := (.array .int)) (by decide) (by decide))))
  refine g_getf X14 hx hby hZ hown (host := "") (Or.inl (wi hw 15 rfl)) Via.refl e14 f15 d9_26 (pc' := 29) rfl ?_
  intro T16 X16 e16
  refine g_iloadN X16 hx hby d9_29 (pc' := 30) rfl rfl ?_
  have f18 := ((((P11.keep Kq2 nin0).other W6 ne_x3_a1).keep Kq9 nin0).other W14 ne_x3_a1)
  refine Go.callS X16 hx hZ (y := (⟨"java/util/Arrays", "copyOf", "([II)[I"⟩ : MethodName)) hown (wi hw 64 rfl) (wi hw 65 rfl) (wi hw 66 rfl) (wi hw 67 rfl) (by decide) e16 (argsL := [(.ref x3), (.int (4 : Int32))]) (rest := [(.ref a1)]) (W := 1) (rm_copyI l Z a0 hw x3 g3 h14 n0 (Nat.le_trans (Nat.le_trans (Nat.le_trans (Nat.le_trans Z0 Kq2.1) (Nat.le_of_eq (Wr.size W6).symm)) Kq9.1) (Nat.le_of_eq (Wr.size W14).symm)) f18) (hb hby d9_30) (by rw [hml]; rfl) rfl pd_ayIIzyI rfl rfl (by decide) (by decide) (by decide) (by decide) ?_
  intro v17 T17 L17 X17 hQ17
  obtain ⟨h17, e17⟩ : ∃ z, T17.heap = z := ⟨_, rfl⟩
  rw [e17] at hQ17
  obtain ⟨b1_17, rfl, Nq17, Kq17, gqb1_17, sqb1_17, Fq0_17⟩ := hQ17
  have N17 := Fr.app (Fr.snoc X14 N9 ge_a1) Nq17
  have z19 : n0 ≤ h17.size := (Nat.le_trans (Nat.le_trans (Nat.le_trans (Nat.le_trans (Nat.le_trans Z0 Kq2.1) (Nat.le_of_eq (Wr.size W6).symm)) Kq9.1) (Nat.le_of_eq (Wr.size W14).symm)) Kq17.1)
  have s20 : h0.size ≤ b1_17 := Nat.le_trans ((((K0.trans Kq2 all0).wr W6 (Or.inl (List.mem_of_getElem? (i := 0) rfl))).trans Kq9 all0).wr W14 (Or.inl (List.mem_of_getElem? (i := 0) rfl))).1 sqb1_17
  show Go p.tables e below s _ _ _ (T17.setTop (mkF m 33 #[.val (.ref a1), .val (.int (4 : Int32))] [(.ref b1_17), (.ref a1)]))
  have f21 := f15.keep Kq17 nin0
  have f22 := ((f13.wr W14).keep Kq17)
  refine g_putf X17 hx hby hZ hown (host := "") (Or.inl (wi hw 15 rfl)) Via.refl e17 f21 f22 (Or.inl (wi hw 16 rfl)) (wi hw 2 rfl) (ty := (.array .int)) (by decide) rfl rfl d9_33 (pc' := 36) rfl ?_
  intro T23 h23 X23 e23 W23 F23
  have K24 : Keep h0 h23 [a1] := ((((((K0.trans Kq2 all0).wr W6 (Or.inl (List.mem_of_getElem? (i := 0) rfl))).trans Kq9 all0).wr W14 (Or.inl (List.mem_of_getElem? (i := 0) rfl))).trans Kq17 all0).wr W23 (Or.inl (List.mem_of_getElem? (i := 0) rfl)))
  refine g_aloadN X23 hx hby d9_36 (pc' := 37) rfl rfl rfl ?_
  refine g_aloadN X23 hx hby d9_37 (pc' := 38) rfl rfl rfl ?_
  have f25 := ((((((P6.keep Kq2 nin0).other W6 (Or.inr (slot_ne (Or.inl (wi hw 18 rfl)) (Or.inl (wi hw 12 rfl)) (by decide) (t := (.array .int)) (t' := (.array .int)) (by decide) (by decide)))).keep Kq9 nin0).other W14 (Or.inr (slot_ne (Or.inl (wi hw 18 rfl)) (Or.inl (wi hw 14 rfl)) (by decide) (t := (.array .int)) (t' := (.array .int)) (by decide) (by decide)))).keep Kq17 nin0).other W23 (Or.inr (slot_ne (Or.inl (wi hw 18 rfl)) (Or.inl (wi hw 16 rfl)) (by decide) (t := (.array .int)) (t' := (.array .int)) (by decide) (by decide))))
  refine g_getf X23 hx hby hZ hown (host := "") (Or.inl (wi hw 17 rfl)) Via.refl e23 f25 d9_38 (pc' := 41) rfl ?_
  intro T26 X26 e26
  refine g_iloadN X26 hx hby d9_41 (pc' := 42) rfl rfl ?_
  have f28 := ((((((P12.keep Kq2 nin0).other W6 ne_x4_a1).keep Kq9 nin0).other W14 ne_x4_a1).keep Kq17 nin0).other W23 ne_x4_a1)
  refine Go.callS X26 hx hZ (y := (⟨"java/util/Arrays", "copyOf", "([II)[I"⟩ : MethodName)) hown (wi hw 64 rfl) (wi hw 65 rfl) (wi hw 66 rfl) (wi hw 67 rfl) (by decide) e26 (argsL := [(.ref x4), (.int (4 : Int32))]) (rest := [(.ref a1)]) (W := 1) (rm_copyI l Z a0 hw x4 g4 h23 n0 (Nat.le_trans z19 (Nat.le_of_eq (Wr.size W23).symm)) f28) (hb hby d9_42) (by rw [hml]; rfl) rfl pd_ayIIzyI rfl rfl (by decide) (by decide) (by decide) (by decide) ?_
  intro v27 T27 L27 X27 hQ27
  obtain ⟨h27, e27⟩ : ∃ z, T27.heap = z := ⟨_, rfl⟩
  rw [e27] at hQ27
  obtain ⟨b1_27, rfl, Nq27, Kq27, gqb1_27, sqb1_27, Fq0_27⟩ := hQ27
  have N27 := Fr.app (Fr.snoc X23 N17 ge_a1) Nq27
  have s29 : h0.size ≤ b1_27 := Nat.le_trans K24.1 sqb1_27
  show Go p.tables e below s _ _ _ (T27.setTop (mkF m 45 #[.val (.ref a1), .val (.int (4 : Int32))] [(.ref b1_27), (.ref a1)]))
  have f30 := f25.keep Kq27 nin0
  have f31 := ((f22.wr W23).keep Kq27)
  refine g_putf X27 hx hby hZ hown (host := "") (Or.inl (wi hw 17 rfl)) Via.refl e27 f30 f31 (Or.inl (wi hw 18 rfl)) (wi hw 2 rfl) (ty := (.array .int)) (by decide) rfl rfl d9_45 (pc' := 48) rfl ?_
  intro T32 h32 X32 e32 W32 F32
  refine g_aloadN X32 hx hby d9_48 (pc' := 49) rfl rfl rfl ?_
  refine g_aloadN X32 hx hby d9_49 (pc' := 50) rfl rfl rfl ?_
  have f33 := ((((((((P7.keep Kq2 nin0).other W6 (Or.inr (slot_ne (Or.inl (wi hw 21 rfl)) (Or.inl (wi hw 12 rfl)) (by decide) (t := (.array .double)) (t' := (.array .int)) (by decide) (by decide)))).keep Kq9 nin0).other W14 (Or.inr (slot_ne (Or.inl (wi hw 21 rfl)) (Or.inl (wi hw 14 rfl)) (by decide) (t := (.array .double)) (t' := (.array .int)) (by decide) (by decide)))).keep Kq17 nin0).other W23 (Or.inr (slot_ne (Or.inl (wi hw 21 rfl)) (Or.inl (wi hw 16 rfl)) (by decide) (t := (.array .double)) (t' := (.array .int)) (by decide) (by decide)))).keep Kq27 nin0).other W32 (Or.inr (slot_ne (Or.inl (wi hw 21 rfl)) (Or.inl (wi hw 18 rfl)) (by decide) (t := (.array .double)) (t' := (.array .int)) (by decide) (by decide))))
  refine g_getf X32 hx hby hZ hown (host := "") (Or.inl (wi hw 20 rfl)) Via.refl e32 f33 d9_50 (pc' := 53) rfl ?_
  intro T34 X34 e34
  refine g_iloadN X34 hx hby d9_53 (pc' := 54) rfl rfl ?_
  have f36 := ((((((((P13.keep Kq2 nin0).other W6 ne_x5_a1).keep Kq9 nin0).other W14 ne_x5_a1).keep Kq17 nin0).other W23 ne_x5_a1).keep Kq27 nin0).other W32 ne_x5_a1)
  refine Go.callS X34 hx hZ (y := (⟨"java/util/Arrays", "copyOf", "([DI)[D"⟩ : MethodName)) hown (wi hw 75 rfl) (wi hw 76 rfl) (wi hw 66 rfl) (wi hw 77 rfl) (by decide) e34 (argsL := [(.ref x5), (.int (4 : Int32))]) (rest := [(.ref a1)]) (W := 1) (rm_copyD l Z a0 hw x5 g5 h32 n0 (Nat.le_trans (Nat.le_trans (Nat.le_trans z19 (Nat.le_of_eq (Wr.size W23).symm)) Kq27.1) (Nat.le_of_eq (Wr.size W32).symm)) f36) (hb hby d9_54) (by rw [hml]; rfl) rfl pd_ayDIzyD rfl rfl (by decide) (by decide) (by decide) (by decide) ?_
  intro v35 T35 L35 X35 hQ35
  obtain ⟨h35, e35⟩ : ∃ z, T35.heap = z := ⟨_, rfl⟩
  rw [e35] at hQ35
  obtain ⟨b1_35, rfl, Nq35, Kq35, gqb1_35, sqb1_35, Fq0_35⟩ := hQ35
  have N35 := Fr.app (Fr.snoc X32 N27 ge_a1) Nq35
  have s37 : h0.size ≤ b1_35 := Nat.le_trans ((K24.trans Kq27 all0).wr W32 (Or.inl (List.mem_of_getElem? (i := 0) rfl))).1 sqb1_35
  show Go p.tables e below s _ _ _ (T35.setTop (mkF m 57 #[.val (.ref a1), .val (.int (4 : Int32))] [(.ref b1_35), (.ref a1)]))
  have f38 := f33.keep Kq35 nin0
  have f39 := ((f31.wr W32).keep Kq35)
  refine g_putf X35 hx hby hZ hown (host := "") (Or.inl (wi hw 20 rfl)) Via.refl e35 f38 f39 (Or.inl (wi hw 21 rfl)) (wi hw 2 rfl) (ty := (.array .double)) (by decide) rfl rfl d9_57 (pc' := 60) rfl ?_
  intro T40 h40 X40 e40 W40 F40
  have z41 : n0 ≤ h40.size := (Nat.le_trans (Nat.le_trans (Nat.le_trans (Nat.le_trans (Nat.le_trans z19 (Nat.le_of_eq (Wr.size W23).symm)) Kq27.1) (Nat.le_of_eq (Wr.size W32).symm)) Kq35.1) (Nat.le_of_eq (Wr.size W40).symm))
  refine g_aloadN X40 hx hby d9_60 (pc' := 61) rfl rfl rfl ?_
  have f42 := ((((((((((P1.keep Kq2 nin0).other W6 (Or.inr (slot_ne (Or.inr (wi hw 28 rfl)) (Or.inl (wi hw 12 rfl)) (by decide) (t := .boolean) (t' := (.array .int)) (by decide) (by decide)))).keep Kq9 nin0).other W14 (Or.inr (slot_ne (Or.inr (wi hw 28 rfl)) (Or.inl (wi hw 14 rfl)) (by decide) (t := .boolean) (t' := (.array .int)) (by decide) (by decide)))).keep Kq17 nin0).other W23 (Or.inr (slot_ne (Or.inr (wi hw 28 rfl)) (Or.inl (wi hw 16 rfl)) (by decide) (t := .boolean) (t' := (.array .int)) (by decide) (by decide)))).keep Kq27 nin0).other W32 (Or.inr (slot_ne (Or.inr (wi hw 28 rfl)) (Or.inl (wi hw 18 rfl)) (by decide) (t := .boolean) (t' := (.array .int)) (by decide) (by decide)))).keep Kq35 nin0).other W40 (Or.inr (slot_ne (Or.inr (wi hw 28 rfl)) (Or.inl (wi hw 21 rfl)) (by decide) (t := .boolean) (t' := (.array .double)) (by decide) (by decide))))
  refine g_getf X40 hx hby hZ hown (host := "") (Or.inl (wi hw 27 rfl)) Via.refl e40 f42 d9_61 (pc' := 64) rfl ?_
  intro T43 X43 e43
  have hc64 : ¬ ((1 : Int) = (0 : Int)) := by decide
  refine g_ifNo X43 hx hby d9_64 (pc' := 67) (feq (show ¬ ((1 : Int32) = (0 : Int32)) from fun q => hc64 (congrArg Int32.toInt q))).1 rfl ?_
  refine g_aloadN X43 hx hby d9_67 (pc' := 68) rfl rfl rfl ?_
  refine g_aloadN X43 hx hby d9_68 (pc' := 69) rfl rfl rfl ?_
  have f44 := ((((((((((P8.keep Kq2 nin0).other W6 (Or.inr (slot_ne (Or.inl (wi hw 23 rfl)) (Or.inl (wi hw 12 rfl)) (by decide) (t := (.array .int)) (t' := (.array .int)) (by decide) (by decide)))).keep Kq9 nin0).other W14 (Or.inr (slot_ne (Or.inl (wi hw 23 rfl)) (Or.inl (wi hw 14 rfl)) (by decide) (t := (.array .int)) (t' := (.array .int)) (by decide) (by decide)))).keep Kq17 nin0).other W23 (Or.inr (slot_ne (Or.inl (wi hw 23 rfl)) (Or.inl (wi hw 16 rfl)) (by decide) (t := (.array .int)) (t' := (.array .int)) (by decide) (by decide)))).keep Kq27 nin0).other W32 (Or.inr (slot_ne (Or.inl (wi hw 23 rfl)) (Or.inl (wi hw 18 rfl)) (by decide) (t := (.array .int)) (t' := (.array .int)) (by decide) (by decide)))).keep Kq35 nin0).other W40 (Or.inr (slot_ne (Or.inl (wi hw 23 rfl)) (Or.inl (wi hw 21 rfl)) (by decide) (t := (.array .int)) (t' := (.array .double)) (by decide) (by decide))))
  refine g_getf X43 hx hby hZ hown (host := "") (Or.inl (wi hw 22 rfl)) Via.refl e43 f44 d9_69 (pc' := 72) rfl ?_
  intro T45 X45 e45
  refine g_iloadN X45 hx hby d9_72 (pc' := 73) rfl rfl ?_
  have f47 := ((((((((((P14.keep Kq2 nin0).other W6 ne_x6_a1).keep Kq9 nin0).other W14 ne_x6_a1).keep Kq17 nin0).other W23 ne_x6_a1).keep Kq27 nin0).other W32 ne_x6_a1).keep Kq35 nin0).other W40 ne_x6_a1)
  refine Go.callS X45 hx hZ (y := (⟨"java/util/Arrays", "copyOf", "([II)[I"⟩ : MethodName)) hown (wi hw 64 rfl) (wi hw 65 rfl) (wi hw 66 rfl) (wi hw 67 rfl) (by decide) e45 (argsL := [(.ref x6), (.int (4 : Int32))]) (rest := [(.ref a1)]) (W := 1) (rm_copyI l Z a0 hw x6 g6 h40 n0 z41 f47) (hb hby d9_73) (by rw [hml]; rfl) rfl pd_ayIIzyI rfl rfl (by decide) (by decide) (by decide) (by decide) ?_
  intro v46 T46 L46 X46 hQ46
  obtain ⟨h46, e46⟩ : ∃ z, T46.heap = z := ⟨_, rfl⟩
  rw [e46] at hQ46
  obtain ⟨b1_46, rfl, Nq46, Kq46, gqb1_46, sqb1_46, Fq0_46⟩ := hQ46
  have N46 := Fr.app (Fr.snoc X40 N35 ge_a1) Nq46
  have s48 : h0.size ≤ b1_46 := Nat.le_trans ((((K24.trans Kq27 all0).wr W32 (Or.inl (List.mem_of_getElem? (i := 0) rfl))).trans Kq35 all0).wr W40 (Or.inl (List.mem_of_getElem? (i := 0) rfl))).1 sqb1_46
  show Go p.tables e below s _ _ _ (T46.setTop (mkF m 76 #[.val (.ref a1), .val (.int (4 : Int32))] [(.ref b1_46), (.ref a1)]))
  have f49 := f44.keep Kq46 nin0
  have f50 := ((f39.wr W40).keep Kq46)
  refine g_putf X46 hx hby hZ hown (host := "") (Or.inl (wi hw 22 rfl)) Via.refl e46 f49 f50 (Or.inl (wi hw 23 rfl)) (wi hw 2 rfl) (ty := (.array .int)) (by decide) rfl rfl d9_76 (pc' := 79) rfl ?_
  intro T51 h51 X51 e51 W51 F51
  have K52 : Keep h0 h51 [a1] := ((((((K24.trans Kq27 all0).wr W32 (Or.inl (List.mem_of_getElem? (i := 0) rfl))).trans Kq35 all0).wr W40 (Or.inl (List.mem_of_getElem? (i := 0) rfl))).trans Kq46 all0).wr W51 (Or.inl (List.mem_of_getElem? (i := 0) rfl)))
  refine Go.retV X51 hx hlk hret (hb hby d9_79) rfl (by decide) (by decide) ?_
  have f53 := ((((((((((F6.keep Kq9 nin0).other W14 (Or.inr (slot_ne (Or.inl (wi hw 12 rfl)) (Or.inl (wi hw 14 rfl)) (by decide) (t := (.array .int)) (t' := (.array .int)) (by decide) (by decide)))).keep Kq17 nin0).other W23 (Or.inr (slot_ne (Or.inl (wi hw 12 rfl)) (Or.inl (wi hw 16 rfl)) (by decide) (t := (.array .int)) (t' := (.array .int)) (by decide) (by decide)))).keep Kq27 nin0).other W32 (Or.inr (slot_ne (Or.inl (wi hw 12 rfl)) (Or.inl (wi hw 18 rfl)) (by decide) (t := (.array .int)) (t' := (.array .int)) (by decide) (by decide)))).keep Kq35 nin0).other W40 (Or.inr (slot_ne (Or.inl (wi hw 12 rfl)) (Or.inl (wi hw 21 rfl)) (by decide) (t := (.array .int)) (t' := (.array .double)) (by decide) (by decide)))).keep Kq46 nin0).other W51 (Or.inr (slot_ne (Or.inl (wi hw 12 rfl)) (Or.inl (wi hw 23 rfl)) (by decide) (t := (.array .int)) (t' := (.array .int)) (by decide) (by decide))))
  have f54 := ((((((((F14.keep Kq17 nin0).other W23 (Or.inr (slot_ne (Or.inl (wi hw 14 rfl)) (Or.inl (wi hw 16 rfl)) (by decide) (t := (.array .int)) (t' := (.array .int)) (by decide) (by decide)))).keep Kq27 nin0).other W32 (Or.inr (slot_ne (Or.inl (wi hw 14 rfl)) (Or.inl (wi hw 18 rfl)) (by decide) (t := (.array .int)) (t' := (.array .int)) (by decide) (by decide)))).keep Kq35 nin0).other W40 (Or.inr (slot_ne (Or.inl (wi hw 14 rfl)) (Or.inl (wi hw 21 rfl)) (by decide) (t := (.array .int)) (t' := (.array .double)) (by decide) (by decide)))).keep Kq46 nin0).other W51 (Or.inr (slot_ne (Or.inl (wi hw 14 rfl)) (Or.inl (wi hw 23 rfl)) (by decide) (t := (.array .int)) (t' := (.array .int)) (by decide) (by decide))))
  have f55 := ((((((F23.keep Kq27 nin0).other W32 (Or.inr (slot_ne (Or.inl (wi hw 16 rfl)) (Or.inl (wi hw 18 rfl)) (by decide) (t := (.array .int)) (t' := (.array .int)) (by decide) (by decide)))).keep Kq35 nin0).other W40 (Or.inr (slot_ne (Or.inl (wi hw 16 rfl)) (Or.inl (wi hw 21 rfl)) (by decide) (t := (.array .int)) (t' := (.array .double)) (by decide) (by decide)))).keep Kq46 nin0).other W51 (Or.inr (slot_ne (Or.inl (wi hw 16 rfl)) (Or.inl (wi hw 23 rfl)) (by decide) (t := (.array .int)) (t' := (.array .int)) (by decide) (by decide))))
  have f56 := ((((F32.keep Kq35 nin0).other W40 (Or.inr (slot_ne (Or.inl (wi hw 18 rfl)) (Or.inl (wi hw 21 rfl)) (by decide) (t := (.array .int)) (t' := (.array .double)) (by decide) (by decide)))).keep Kq46 nin0).other W51 (Or.inr (slot_ne (Or.inl (wi hw 18 rfl)) (Or.inl (wi hw 23 rfl)) (by decide) (t := (.array .int)) (t' := (.array .int)) (by decide) (by decide))))
  have f57 := ((F40.keep Kq46 nin0).other W51 (Or.inr (slot_ne (Or.inl (wi hw 21 rfl)) (Or.inl (wi hw 23 rfl)) (by decide) (t := (.array .double)) (t' := (.array .int)) (by decide) (by decide))))
  rw [e51]
  have ne58 : a1 ≠ b1_2 := Nat.ne_of_lt (Nat.lt_of_lt_of_le P17.lt sqb1_2)
  have ne59 : b1_2 ≠ b1_9 := Nat.ne_of_lt (Nat.lt_of_lt_of_le (Fq0_2.other W6 (Ne.symm ne58)).lt sqb1_9)
  have ne60 : b1_2 ≠ b1_17 := Nat.ne_of_lt (Nat.lt_of_lt_of_le (((Fq0_2.other W6 (Ne.symm ne58)).keep Kq9 nin0).other W14 (Ne.symm ne58)).lt sqb1_17)
  have ne61 : b1_2 ≠ b1_27 := Nat.ne_of_lt (Nat.lt_of_lt_of_le (((((Fq0_2.other W6 (Ne.symm ne58)).keep Kq9 nin0).other W14 (Ne.symm ne58)).keep Kq17 nin0).other W23 (Ne.symm ne58)).lt sqb1_27)
  have ne62 : b1_2 ≠ b1_35 := Nat.ne_of_lt (Nat.lt_of_lt_of_le (((((((Fq0_2.other W6 (Ne.symm ne58)).keep Kq9 nin0).other W14 (Ne.symm ne58)).keep Kq17 nin0).other W23 (Ne.symm ne58)).keep Kq27 nin0).other W32 (Ne.symm ne58)).lt sqb1_35)
  have ne63 : b1_2 ≠ b1_46 := Nat.ne_of_lt (Nat.lt_of_lt_of_le (((((((((Fq0_2.other W6 (Ne.symm ne58)).keep Kq9 nin0).other W14 (Ne.symm ne58)).keep Kq17 nin0).other W23 (Ne.symm ne58)).keep Kq27 nin0).other W32 (Ne.symm ne58)).keep Kq35 nin0).other W40 (Ne.symm ne58)).lt sqb1_46)
  have ne64 : a1 ≠ b1_9 := Nat.ne_of_lt (Nat.lt_of_lt_of_le f7.lt sqb1_9)
  have ne65 : b1_9 ≠ b1_17 := Nat.ne_of_lt (Nat.lt_of_lt_of_le (Fq0_9.other W14 (Ne.symm ne64)).lt sqb1_17)
  have ne66 : b1_9 ≠ b1_27 := Nat.ne_of_lt (Nat.lt_of_lt_of_le (((Fq0_9.other W14 (Ne.symm ne64)).keep Kq17 nin0).other W23 (Ne.symm ne64)).lt sqb1_27)
  have ne67 : b1_9 ≠ b1_35 := Nat.ne_of_lt (Nat.lt_of_lt_of_le (((((Fq0_9.other W14 (Ne.symm ne64)).keep Kq17 nin0).other W23 (Ne.symm ne64)).keep Kq27 nin0).other W32 (Ne.symm ne64)).lt sqb1_35)
  have ne68 : b1_9 ≠ b1_46 := Nat.ne_of_lt (Nat.lt_of_lt_of_le (((((((Fq0_9.other W14 (Ne.symm ne64)).keep Kq17 nin0).other W23 (Ne.symm ne64)).keep Kq27 nin0).other W32 (Ne.symm ne64)).keep Kq35 nin0).other W40 (Ne.symm ne64)).lt sqb1_46)
  have ne69 : a1 ≠ b1_17 := Nat.ne_of_lt (Nat.lt_of_lt_of_le f15.lt sqb1_17)
  have ne70 : b1_17 ≠ b1_27 := Nat.ne_of_lt (Nat.lt_of_lt_of_le (Fq0_17.other W23 (Ne.symm ne69)).lt sqb1_27)
  have ne71 : b1_17 ≠ b1_35 := Nat.ne_of_lt (Nat.lt_of_lt_of_le (((Fq0_17.other W23 (Ne.symm ne69)).keep Kq27 nin0).other W32 (Ne.symm ne69)).lt sqb1_35)
  have ne72 : b1_17 ≠ b1_46 := Nat.ne_of_lt (Nat.lt_of_lt_of_le (((((Fq0_17.other W23 (Ne.symm ne69)).keep Kq27 nin0).other W32 (Ne.symm ne69)).keep Kq35 nin0).other W40 (Ne.symm ne69)).lt sqb1_46)
  have ne73 : a1 ≠ b1_27 := Nat.ne_of_lt (Nat.lt_of_lt_of_le f25.lt sqb1_27)
  have ne74 : b1_27 ≠ b1_35 := Nat.ne_of_lt (Nat.lt_of_lt_of_le (Fq0_27.other W32 (Ne.symm ne73)).lt sqb1_35)
  have ne75 : b1_27 ≠ b1_46 := Nat.ne_of_lt (Nat.lt_of_lt_of_le (((Fq0_27.other W32 (Ne.symm ne73)).keep Kq35 nin0).other W40 (Ne.symm ne73)).lt sqb1_46)
  have ne76 : a1 ≠ b1_35 := Nat.ne_of_lt (Nat.lt_of_lt_of_le f33.lt sqb1_35)
  have ne77 : b1_35 ≠ b1_46 := Nat.ne_of_lt (Nat.lt_of_lt_of_le (Fq0_35.other W40 (Ne.symm ne76)).lt sqb1_46)
  have f78 := ((f42.keep Kq46 nin0).other W51 (Or.inr (slot_ne (Or.inr (wi hw 28 rfl)) (Or.inl (wi hw 23 rfl)) (by decide) (t := .boolean) (t' := (.array .int)) (by decide) (by decide))))
  have f79 := ((((((((((((P2.keep Kq2 nin0).other W6 (Or.inr (slot_ne (Or.inl (wi hw 26 rfl)) (Or.inl (wi hw 12 rfl)) (by decide) (t := (.array .long)) (t' := (.array .int)) (by decide) (by decide)))).keep Kq9 nin0).other W14 (Or.inr (slot_ne (Or.inl (wi hw 26 rfl)) (Or.inl (wi hw 14 rfl)) (by decide) (t := (.array .long)) (t' := (.array .int)) (by decide) (by decide)))).keep Kq17 nin0).other W23 (Or.inr (slot_ne (Or.inl (wi hw 26 rfl)) (Or.inl (wi hw 16 rfl)) (by decide) (t := (.array .long)) (t' := (.array .int)) (by decide) (by decide)))).keep Kq27 nin0).other W32 (Or.inr (slot_ne (Or.inl (wi hw 26 rfl)) (Or.inl (wi hw 18 rfl)) (by decide) (t := (.array .long)) (t' := (.array .int)) (by decide) (by decide)))).keep Kq35 nin0).other W40 (Or.inr (slot_ne (Or.inl (wi hw 26 rfl)) (Or.inl (wi hw 21 rfl)) (by decide) (t := (.array .long)) (t' := (.array .double)) (by decide) (by decide)))).keep Kq46 nin0).other W51 (Or.inr (slot_ne (Or.inl (wi hw 26 rfl)) (Or.inl (wi hw 23 rfl)) (by decide) (t := (.array .long)) (t' := (.array .int)) (by decide) (by decide))))
  have f80 := ((((((((((((P15.keep Kq2 nin0).other W6 (Or.inr (slot_ne (Or.inl (wi hw 39 rfl)) (Or.inl (wi hw 12 rfl)) (by decide) (t := .int) (t' := (.array .int)) (by decide) (by decide)))).keep Kq9 nin0).other W14 (Or.inr (slot_ne (Or.inl (wi hw 39 rfl)) (Or.inl (wi hw 14 rfl)) (by decide) (t := .int) (t' := (.array .int)) (by decide) (by decide)))).keep Kq17 nin0).other W23 (Or.inr (slot_ne (Or.inl (wi hw 39 rfl)) (Or.inl (wi hw 16 rfl)) (by decide) (t := .int) (t' := (.array .int)) (by decide) (by decide)))).keep Kq27 nin0).other W32 (Or.inr (slot_ne (Or.inl (wi hw 39 rfl)) (Or.inl (wi hw 18 rfl)) (by decide) (t := .int) (t' := (.array .int)) (by decide) (by decide)))).keep Kq35 nin0).other W40 (Or.inr (slot_ne (Or.inl (wi hw 39 rfl)) (Or.inl (wi hw 21 rfl)) (by decide) (t := .int) (t' := (.array .double)) (by decide) (by decide)))).keep Kq46 nin0).other W51 (Or.inr (slot_ne (Or.inl (wi hw 39 rfl)) (Or.inl (wi hw 23 rfl)) (by decide) (t := .int) (t' := (.array .int)) (by decide) (by decide))))
  have f81 := ((((((((((((P16.keep Kq2 nin0).other W6 (Or.inr (slot_ne (Or.inl (wi hw 79 rfl)) (Or.inl (wi hw 12 rfl)) (by decide) (t := .int) (t' := (.array .int)) (by decide) (by decide)))).keep Kq9 nin0).other W14 (Or.inr (slot_ne (Or.inl (wi hw 79 rfl)) (Or.inl (wi hw 14 rfl)) (by decide) (t := .int) (t' := (.array .int)) (by decide) (by decide)))).keep Kq17 nin0).other W23 (Or.inr (slot_ne (Or.inl (wi hw 79 rfl)) (Or.inl (wi hw 16 rfl)) (by decide) (t := .int) (t' := (.array .int)) (by decide) (by decide)))).keep Kq27 nin0).other W32 (Or.inr (slot_ne (Or.inl (wi hw 79 rfl)) (Or.inl (wi hw 18 rfl)) (by decide) (t := .int) (t' := (.array .int)) (by decide) (by decide)))).keep Kq35 nin0).other W40 (Or.inr (slot_ne (Or.inl (wi hw 79 rfl)) (Or.inl (wi hw 21 rfl)) (by decide) (t := .int) (t' := (.array .double)) (by decide) (by decide)))).keep Kq46 nin0).other W51 (Or.inr (slot_ne (Or.inl (wi hw 79 rfl)) (Or.inl (wi hw 23 rfl)) (by decide) (t := .int) (t' := (.array .int)) (by decide) (by decide))))
  have f82 := ((((((((((((P17.keep Kq2 nin0).other W6 (Or.inr (slot_ne (Or.inl (wi hw 81 rfl)) (Or.inl (wi hw 12 rfl)) (by decide) (t := .long) (t' := (.array .int)) (by decide) (by decide)))).keep Kq9 nin0).other W14 (Or.inr (slot_ne (Or.inl (wi hw 81 rfl)) (Or.inl (wi hw 14 rfl)) (by decide) (t := .long) (t' := (.array .int)) (by decide) (by decide)))).keep Kq17 nin0).other W23 (Or.inr (slot_ne (Or.inl (wi hw 81 rfl)) (Or.inl (wi hw 16 rfl)) (by decide) (t := .long) (t' := (.array .int)) (by decide) (by decide)))).keep Kq27 nin0).other W32 (Or.inr (slot_ne (Or.inl (wi hw 81 rfl)) (Or.inl (wi hw 18 rfl)) (by decide) (t := .long) (t' := (.array .int)) (by decide) (by decide)))).keep Kq35 nin0).other W40 (Or.inr (slot_ne (Or.inl (wi hw 81 rfl)) (Or.inl (wi hw 21 rfl)) (by decide) (t := .long) (t' := (.array .double)) (by decide) (by decide)))).keep Kq46 nin0).other W51 (Or.inr (slot_ne (Or.inl (wi hw 81 rfl)) (Or.inl (wi hw 23 rfl)) (by decide) (t := .long) (t' := (.array .int)) (by decide) (by decide))))
  have f83 := (((((((((((Fq0_2.other W6 (Ne.symm ne58)).keep Kq9 nin0).other W14 (Ne.symm ne58)).keep Kq17 nin0).other W23 (Ne.symm ne58)).keep Kq27 nin0).other W32 (Ne.symm ne58)).keep Kq35 nin0).other W40 (Ne.symm ne58)).keep Kq46 nin0).other W51 (Ne.symm ne58))
  have f84 := (((((((((Fq0_9.other W14 (Ne.symm ne64)).keep Kq17 nin0).other W23 (Ne.symm ne64)).keep Kq27 nin0).other W32 (Ne.symm ne64)).keep Kq35 nin0).other W40 (Ne.symm ne64)).keep Kq46 nin0).other W51 (Ne.symm ne64))
  have f85 := (((((((Fq0_17.other W23 (Ne.symm ne69)).keep Kq27 nin0).other W32 (Ne.symm ne69)).keep Kq35 nin0).other W40 (Ne.symm ne69)).keep Kq46 nin0).other W51 (Ne.symm ne69))
  have f86 := (((((Fq0_27.other W32 (Ne.symm ne73)).keep Kq35 nin0).other W40 (Ne.symm ne73)).keep Kq46 nin0).other W51 (Ne.symm ne73))
  have f87 := (((Fq0_35.other W40 (Ne.symm ne76)).keep Kq46 nin0).other W51 (Ne.symm ne76))
  have ne88 : a1 ≠ b1_46 := Nat.ne_of_lt (Nat.lt_of_lt_of_le f44.lt sqb1_46)
  have f89 := (Fq0_46.other W51 (Ne.symm ne88))
  exact ⟨b1_2, b1_9, b1_17, b1_27, b1_35, b1_46, rfl, (Fr.snoc X51 N46 ge_a1), K52, gqb1_2, s3, gqb1_9, s11, gqb1_17, s20, gqb1_27, s29, gqb1_35, s37, gqb1_46, s48, ne59, ne60, ne61, ne62, ne63, ne65, ne66, ne67, ne68, ne70, ne71, ne72, ne74, ne75, ne77, f78, f79, f53, f54, f55, f56, f57, F51, f80, f81, f82, f83, f84, f85, f86, f87, f89⟩
theorem d5_56 : decode prog_12_method_2_code 56 = .ok (.aload_n 0, 1) := by decide +kernel
theorem d5_57 : decode prog_12_method_2_code 57 = .ok (.getfield 26, 3) := by decide +kernel
theorem d5_60 : decode prog_12_method_2_code 60 = .ok (.iload 6, 2) := by decide +kernel
theorem d5_62 : decode prog_12_method_2_code 62 = .ok (.iload 5, 2) := by decide +kernel
theorem d5_64 : decode prog_12_method_2_code 64 = .ok (.iastore, 1) := by decide +kernel
theorem ef_rm_addA1 (m : MethodId) (x0 : Addr) (x1 : Int32) (x2 : Int32) (x3 : UInt64) (x4 : Int32) : entryFrame m #[(.ref x0), (.int x1), (.int x2), (.double x3), (.int x4)] 7 = mkF m 0 #[.val (.ref x0), .val (.int x1), .val (.int x2), .val (.double x3), .second, .val (.int x4), .unset] [] := by first | (simp [entryFrame, mkF, argsToLocals, Value.category]; done) | rfl
set_option maxRecDepth 65536 in
set_option maxHeartbeats 40000000 in
theorem rm_addA1 (l : Launch) (Z : State) (a0 : Array Value) (hw : ∀ d ∈ tables_1, d.before a0 Z = true) (a1 : Addr) (i1 : Int32) (i2 : Int32) (d1 : UInt64) (i3 : Int32) (x1 : Addr) (x2 : Addr) (x3 : Addr) (x4 : Addr) (x5 : Addr) (x6 : Addr) (x7 : Addr) (g1 : Nat → Int32) (g2 : Nat → Int32) (g3 : Nat → Int32) (g4 : Nat → Int32) (g5 : Nat → UInt64) (g6 : Nat → Int32) (t2 : Int32) (u1 : Int64) (h0 : Heap) (n0 : Nat) (Z0 : n0 ≤ h0.size) (P0 : Exa Z h0 a1 "com/example/edgewise/edgewise/EdgeSlots") (P1 : Fld Z h0 a1 "com/example/edgewise/edgewise/EdgeSlots" "keyed" "Z" (.int (1 : Int32))) (P2 : Fld Z h0 a1 "com/example/edgewise/edgewise/EdgeSlots" "keptNumbers" "[J" (.ref x7)) (P3 : Fld Z h0 a1 "com/example/edgewise/edgewise/EdgeSlots" "sources" "[I" (.ref x1)) (P4 : Fld Z h0 a1 "com/example/edgewise/edgewise/EdgeSlots" "targets" "[I" (.ref x2)) (P5 : Fld Z h0 a1 "com/example/edgewise/edgewise/EdgeSlots" "sourcePositions" "[I" (.ref x3)) (P6 : Fld Z h0 a1 "com/example/edgewise/edgewise/EdgeSlots" "targetPositions" "[I" (.ref x4)) (P7 : Fld Z h0 a1 "com/example/edgewise/edgewise/EdgeSlots" "weights" "[D" (.ref x5)) (P8 : Fld Z h0 a1 "com/example/edgewise/edgewise/EdgeSlots" "keys" "[I" (.ref x6)) (P9 : ArF Z h0 x1 .int 0 (fun i => .int (g1 i))) (P10 : ArF Z h0 x2 .int 0 (fun i => .int (g2 i))) (P11 : ArF Z h0 x3 .int 0 (fun i => .int (g3 i))) (P12 : ArF Z h0 x4 .int 0 (fun i => .int (g4 i))) (P13 : ArF Z h0 x5 .double 0 (fun i => .double (g5 i))) (P14 : ArF Z h0 x6 .int 0 (fun i => .int (g6 i))) (P15 : Fld Z h0 a1 "com/example/edgewise/edgewise/EdgeSlots" "bound" "I" (.int (0 : Int32))) (P16 : Fld Z h0 a1 "com/example/edgewise/edgewise/EdgeSlots" "count" "I" (.int t2)) (P17 : Fld Z h0 a1 "com/example/edgewise/edgewise/EdgeSlots" "nextNumber" "J" (.long u1)) (ne_x1_a1 : x1 ≠ a1) (ne_x2_a1 : x2 ≠ a1) (ne_x3_a1 : x3 ≠ a1) (ne_x4_a1 : x4 ≠ a1) (ne_x5_a1 : x5 ≠ a1) (ne_x6_a1 : x6 ≠ a1) (ge_a1 : n0 ≤ a1) :
    Con l Z (⟨"com/example/edgewise/edgewise/EdgeSlots", "add", "(IIDI)I"⟩ : MethodName) prog_12_method_2_code 7 (some .int) ({ frames := 3, cells := 6, slots := 24, locals := 68 } : Room) #[(.ref a1), (.int i1), (.int i2), (.double d1), (.int i3)] h0 (fun v h L => ∃ (b1 : Addr) (b2 : Addr) (b3 : Addr) (b4 : Addr) (b5 : Addr) (b6 : Addr), v = some (.int (0 : Int32)) ∧ Fr n0 L ∧ Keep h0 h [a1] ∧ n0 ≤ b1 ∧ h0.size ≤ b1 ∧ n0 ≤ b2 ∧ h0.size ≤ b2 ∧ n0 ≤ b3 ∧ h0.size ≤ b3 ∧ n0 ≤ b4 ∧ h0.size ≤ b4 ∧ n0 ≤ b5 ∧ h0.size ≤ b5 ∧ n0 ≤ b6 ∧ h0.size ≤ b6 ∧ b1 ≠ b2 ∧ b1 ≠ b3 ∧ b1 ≠ b4 ∧ b1 ≠ b5 ∧ b1 ≠ b6 ∧ b2 ≠ b3 ∧ b2 ≠ b4 ∧ b2 ≠ b5 ∧ b2 ≠ b6 ∧ b3 ≠ b4 ∧ b3 ≠ b5 ∧ b3 ≠ b6 ∧ b4 ≠ b5 ∧ b4 ≠ b6 ∧ b5 ≠ b6 ∧ Fld Z h a1 "com/example/edgewise/edgewise/EdgeSlots" "keyed" "Z" (.int (1 : Int32)) ∧ Fld Z h a1 "com/example/edgewise/edgewise/EdgeSlots" "keptNumbers" "[J" (.ref x7) ∧ Fld Z h a1 "com/example/edgewise/edgewise/EdgeSlots" "sources" "[I" (.ref b1) ∧ Fld Z h a1 "com/example/edgewise/edgewise/EdgeSlots" "targets" "[I" (.ref b2) ∧ Fld Z h a1 "com/example/edgewise/edgewise/EdgeSlots" "sourcePositions" "[I" (.ref b3) ∧ Fld Z h a1 "com/example/edgewise/edgewise/EdgeSlots" "targetPositions" "[I" (.ref b4) ∧ Fld Z h a1 "com/example/edgewise/edgewise/EdgeSlots" "weights" "[D" (.ref b5) ∧ Fld Z h a1 "com/example/edgewise/edgewise/EdgeSlots" "keys" "[I" (.ref b6) ∧ Fld Z h a1 "com/example/edgewise/edgewise/EdgeSlots" "bound" "I" (.int (1 : Int32)) ∧ Fld Z h a1 "com/example/edgewise/edgewise/EdgeSlots" "count" "I" (.int (t2 + (1 : Int32))) ∧ Fld Z h a1 "com/example/edgewise/edgewise/EdgeSlots" "nextNumber" "J" (.long (u1 + (1 : Int64))) ∧ ArF Z h b1 .int 4 (fun i => .int ((upI (fun _ => (0 : Int32)) 0 i1) i)) ∧ ArF Z h b2 .int 4 (fun i => .int ((upI (fun _ => (0 : Int32)) 0 i2) i)) ∧ ArF Z h b3 .int 4 (fun i => .int ((fun _ => (0 : Int32)) i)) ∧ ArF Z h b4 .int 4 (fun i => .int ((fun _ => (0 : Int32)) i)) ∧ ArF Z h b5 .double 4 (fun i => .double ((upD (fun _ => (0 : UInt64)) 0 d1) i)) ∧ ArF Z h b6 .int 4 (fun i => .int ((upI (fun _ => (0 : Int32)) 0 i3) i))) := by
  refine meet (y := (⟨"com/example/edgewise/edgewise/EdgeSlots", "add", "(IIDI)I"⟩ : MethodName)) (Q := fun v h L => ∃ (b1 : Addr) (b2 : Addr) (b3 : Addr) (b4 : Addr) (b5 : Addr) (b6 : Addr), v = some (.int (0 : Int32)) ∧ Fr n0 L ∧ Keep h0 h [a1] ∧ n0 ≤ b1 ∧ h0.size ≤ b1 ∧ n0 ≤ b2 ∧ h0.size ≤ b2 ∧ n0 ≤ b3 ∧ h0.size ≤ b3 ∧ n0 ≤ b4 ∧ h0.size ≤ b4 ∧ n0 ≤ b5 ∧ h0.size ≤ b5 ∧ n0 ≤ b6 ∧ h0.size ≤ b6 ∧ b1 ≠ b2 ∧ b1 ≠ b3 ∧ b1 ≠ b4 ∧ b1 ≠ b5 ∧ b1 ≠ b6 ∧ b2 ≠ b3 ∧ b2 ≠ b4 ∧ b2 ≠ b5 ∧ b2 ≠ b6 ∧ b3 ≠ b4 ∧ b3 ≠ b5 ∧ b3 ≠ b6 ∧ b4 ≠ b5 ∧ b4 ≠ b6 ∧ b5 ≠ b6 ∧ Fld Z h a1 "com/example/edgewise/edgewise/EdgeSlots" "keyed" "Z" (.int (1 : Int32)) ∧ Fld Z h a1 "com/example/edgewise/edgewise/EdgeSlots" "keptNumbers" "[J" (.ref x7) ∧ Fld Z h a1 "com/example/edgewise/edgewise/EdgeSlots" "sources" "[I" (.ref b1) ∧ Fld Z h a1 "com/example/edgewise/edgewise/EdgeSlots" "targets" "[I" (.ref b2) ∧ Fld Z h a1 "com/example/edgewise/edgewise/EdgeSlots" "sourcePositions" "[I" (.ref b3) ∧ Fld Z h a1 "com/example/edgewise/edgewise/EdgeSlots" "targetPositions" "[I" (.ref b4) ∧ Fld Z h a1 "com/example/edgewise/edgewise/EdgeSlots" "weights" "[D" (.ref b5) ∧ Fld Z h a1 "com/example/edgewise/edgewise/EdgeSlots" "keys" "[I" (.ref b6) ∧ Fld Z h a1 "com/example/edgewise/edgewise/EdgeSlots" "bound" "I" (.int (1 : Int32)) ∧ Fld Z h a1 "com/example/edgewise/edgewise/EdgeSlots" "count" "I" (.int (t2 + (1 : Int32))) ∧ Fld Z h a1 "com/example/edgewise/edgewise/EdgeSlots" "nextNumber" "J" (.long (u1 + (1 : Int64))) ∧ ArF Z h b1 .int 4 (fun i => .int ((upI (fun _ => (0 : Int32)) 0 i1) i)) ∧ ArF Z h b2 .int 4 (fun i => .int ((upI (fun _ => (0 : Int32)) 0 i2) i)) ∧ ArF Z h b3 .int 4 (fun i => .int ((fun _ => (0 : Int32)) i)) ∧ ArF Z h b4 .int 4 (fun i => .int ((fun _ => (0 : Int32)) i)) ∧ ArF Z h b5 .double 4 (fun i => .double ((upD (fun _ => (0 : UInt64)) 0 d1) i)) ∧ ArF Z h b6 .int 4 (fun i => .int ((upI (fun _ => (0 : Int32)) 0 i3) i))) (plainFor_of_name pn_com_example_edgewise_edgewise_EdgeSlots) (fun m => ef_rm_addA1 m a1 i1 i2 d1 i3) ?_
  intro p e s m below meth c T0 hx hby hml hZ hown hnm hret hlk X0 e0
  have N0 := Fr.nil n0
  have K0 := Keep.refl h0 [a1]
  refine g_aloadN X0 hx hby d5_0 (pc' := 1) rfl rfl rfl ?_
  refine g_getf X0 hx hby hZ hown (host := "") (Or.inl (wi hw 38 rfl)) Via.refl e0 P15 d5_1 (pc' := 4) rfl ?_
  intro T1 X1 e1
  refine g_istore X1 hx hby d5_4 (pc' := 6) rfl (L' := #[.val (.ref a1), .val (.int i1), .val (.int i2), .val (.double d1), .second, .val (.int i3), .val (.int (0 : Int32))]) rfl ?_
  refine g_iload X1 hx hby d5_6 (pc' := 8) rfl rfl ?_
  refine g_aloadN X1 hx hby d5_8 (pc' := 9) rfl rfl rfl ?_
  refine g_getf X1 hx hby hZ hown (host := "") (Or.inl (wi hw 11 rfl)) Via.refl e1 P3 d5_9 (pc' := 12) rfl ?_
  intro T2 X2 e2
  refine Go.alen X2 hx hZ e2 P9 (hb hby d5_12) ?_
  show Go p.tables e below s _ _ _ (T2.setTop (mkF m 13 #[.val (.ref a1), .val (.int i1), .val (.int i2), .val (.double d1), .second, .val (.int i3), .val (.int (0 : Int32))] [(.int (0 : Int32)), (.int (0 : Int32))]))
  have hc13 : (0 : Int) = (0 : Int) := by decide
  refine g_icmpNo X2 hx hby d5_13 (pc' := 16) (teq (show (0 : Int32) = (0 : Int32) from Int32.toInt_inj.mp hc13)).2 rfl ?_
  refine g_aloadN X2 hx hby d5_16 (pc' := 17) rfl rfl rfl ?_
  refine g_iload X2 hx hby d5_17 (pc' := 19) rfl rfl ?_
  refine Go.callS X2 hx hZ (y := (⟨"com/example/edgewise/edgewise/Capacity", "next", "(I)I"⟩ : MethodName)) hown (wi hw 45 rfl) (wi hw 46 rfl) (wi hw 47 rfl) (wi hw 48 rfl) (by decide) e2 (argsL := [(.int (0 : Int32))]) (rest := [(.ref a1)]) (W := 1) (rm_next0 l Z a0 hw  h0 n0 Z0 ) (hb hby d5_19) (by rw [hml]; rfl) rfl pd_aIzI rfl rfl (by decide) (by decide) (by decide) (by decide) ?_
  intro v3 T3 L3 X3 hQ3
  obtain ⟨rfl, Nq3, hh3⟩ := hQ3
  have N3 := Fr.app N0 Nq3
  show Go p.tables e below s _ _ _ (T3.setTop (mkF m 22 #[.val (.ref a1), .val (.int i1), .val (.int i2), .val (.double d1), .second, .val (.int i3), .val (.int (0 : Int32))] [(.int (4 : Int32)), (.ref a1)]))
  refine Go.callP X3 hx hZ (y := (⟨"com/example/edgewise/edgewise/EdgeSlots", "resize", "(I)V"⟩ : MethodName)) hown (wi hw 60 rfl) (wi hw 61 rfl) (wi hw 2 rfl) (wi hw 62 rfl) (wi hw 3 rfl) (wi hw 63 rfl) (by decide) hh3 (a := a1)  (argsL := [(.int (4 : Int32))]) (rest := []) (W := 0) P0 (rm_resize1 l Z a0 hw a1 x1 x2 x3 x4 x5 x6 x7 g1 g2 g3 g4 g5 g6 (0 : Int32) t2 u1 h0 n0 Z0 P0 P1 P2 P3 P4 P5 P6 P7 P8 P9 P10 P11 P12 P13 P14 P15 P16 P17 ne_x1_a1 ne_x2_a1 ne_x3_a1 ne_x4_a1 ne_x5_a1 ne_x6_a1 ge_a1) (hb hby d5_22) (by rw [hml]; rfl) rfl pd_aIzV rfl rfl (by decide) (by decide) (by decide) (by decide) ?_
  intro v4 T4 L4 X4 hQ4
  obtain ⟨h4, e4⟩ : ∃ z, T4.heap = z := ⟨_, rfl⟩
  rw [e4] at hQ4
  obtain ⟨b1_4, b2_4, b3_4, b4_4, b5_4, b6_4, rfl, Nq4, Kq4, gqb1_4, sqb1_4, gqb2_4, sqb2_4, gqb3_4, sqb3_4, gqb4_4, sqb4_4, gqb5_4, sqb5_4, gqb6_4, sqb6_4, nqb1_b2_4, nqb1_b3_4, nqb1_b4_4, nqb1_b5_4, nqb1_b6_4, nqb2_b3_4, nqb2_b4_4, nqb2_b5_4, nqb2_b6_4, nqb3_b4_4, nqb3_b5_4, nqb3_b6_4, nqb4_b5_4, nqb4_b6_4, nqb5_b6_4, Fq0_4, Fq1_4, Fq2_4, Fq3_4, Fq4_4, Fq5_4, Fq6_4, Fq7_4, Fq8_4, Fq9_4, Fq10_4, Fq11_4, Fq12_4, Fq13_4, Fq14_4, Fq15_4, Fq16_4⟩ := hQ4
  have N4 := Fr.app N3 Nq4
  have s5 : h0.size ≤ b1_4 := Nat.le_trans K0.1 sqb1_4
  have s6 : h0.size ≤ b2_4 := Nat.le_trans K0.1 sqb2_4
  have s7 : h0.size ≤ b3_4 := Nat.le_trans K0.1 sqb3_4
  have s8 : h0.size ≤ b4_4 := Nat.le_trans K0.1 sqb4_4
  have s9 : h0.size ≤ b5_4 := Nat.le_trans K0.1 sqb5_4
  have s10 : h0.size ≤ b6_4 := Nat.le_trans K0.1 sqb6_4
  show Go p.tables e below s _ _ _ (T4.setTop (mkF m 25 #[.val (.ref a1), .val (.int i1), .val (.int i2), .val (.double d1), .second, .val (.int i3), .val (.int (0 : Int32))] []))
  refine g_aloadN X4 hx hby d5_25 (pc' := 26) rfl rfl rfl ?_
  refine g_getf X4 hx hby hZ hown (host := "") (Or.inl (wi hw 11 rfl)) Via.refl e4 Fq2_4 d5_26 (pc' := 29) rfl ?_
  intro T11 X11 e11
  refine g_iload X11 hx hby d5_29 (pc' := 31) rfl rfl ?_
  refine g_iloadN X11 hx hby d5_31 (pc' := 32) rfl rfl ?_
  refine Go.iastore X11 hx hZ e11 Fq11_4 (k := 0) rfl (by decide) (hb hby d5_32) ?_
  intro T12 h12 X12 e12 W12 V12
  show Go p.tables e below s _ _ _ (T12.setTop (mkF m 33 #[.val (.ref a1), .val (.int i1), .val (.int i2), .val (.double d1), .second, .val (.int i3), .val (.int (0 : Int32))] []))
  refine g_aloadN X12 hx hby d5_33 (pc' := 34) rfl rfl rfl ?_
  have ne13 : a1 ≠ b1_4 := Nat.ne_of_lt (Nat.lt_of_lt_of_le P17.lt sqb1_4)
  have f14 := (Fq3_4.other W12 (Or.inl ne13))
  refine g_getf X12 hx hby hZ hown (host := "") (Or.inl (wi hw 13 rfl)) Via.refl e12 f14 d5_34 (pc' := 37) rfl ?_
  intro T15 X15 e15
  refine g_iload X15 hx hby d5_37 (pc' := 39) rfl rfl ?_
  refine g_iloadN X15 hx hby d5_39 (pc' := 40) rfl rfl ?_
  have f16 := (Fq12_4.other W12 (Ne.symm nqb1_b2_4))
  refine Go.iastore X15 hx hZ e15 f16 (k := 0) rfl (by decide) (hb hby d5_40) ?_
  intro T17 h17 X17 e17 W17 V17
  show Go p.tables e below s _ _ _ (T17.setTop (mkF m 41 #[.val (.ref a1), .val (.int i1), .val (.int i2), .val (.double d1), .second, .val (.int i3), .val (.int (0 : Int32))] []))
  refine g_aloadN X17 hx hby d5_41 (pc' := 42) rfl rfl rfl ?_
  have ne18 : a1 ≠ b2_4 := Nat.ne_of_lt (Nat.lt_of_lt_of_le P17.lt sqb2_4)
  have f19 := ((Fq6_4.other W12 (Or.inl ne13)).other W17 (Or.inl ne18))
  refine g_getf X17 hx hby hZ hown (host := "") (Or.inl (wi hw 20 rfl)) Via.refl e17 f19 d5_42 (pc' := 45) rfl ?_
  intro T20 X20 e20
  refine g_iload X20 hx hby d5_45 (pc' := 47) rfl rfl ?_
  refine g_dloadN X20 hx hby d5_47 (pc' := 48) rfl rfl ?_
  have f21 := ((Fq15_4.other W12 (Ne.symm nqb1_b5_4)).other W17 (Ne.symm nqb2_b5_4))
  refine Go.dastore X20 hx hZ e20 f21 (k := 0) rfl (by decide) (hb hby d5_48) ?_
  intro T22 h22 X22 e22 W22 V22
  have z23 : n0 ≤ h22.size := (Nat.le_trans (Nat.le_trans (Nat.le_trans (Nat.le_trans Z0 Kq4.1) (Nat.le_of_eq (Wr.size W12).symm)) (Nat.le_of_eq (Wr.size W17).symm)) (Nat.le_of_eq (Wr.size W22).symm))
  show Go p.tables e below s _ _ _ (T22.setTop (mkF m 49 #[.val (.ref a1), .val (.int i1), .val (.int i2), .val (.double d1), .second, .val (.int i3), .val (.int (0 : Int32))] []))
  refine g_aloadN X22 hx hby d5_49 (pc' := 50) rfl rfl rfl ?_
  have ne24 : a1 ≠ b5_4 := Nat.ne_of_lt (Nat.lt_of_lt_of_le P17.lt sqb5_4)
  have f25 := (((Fq0_4.other W12 (Or.inl ne13)).other W17 (Or.inl ne18)).other W22 (Or.inl ne24))
  refine g_getf X22 hx hby hZ hown (host := "") (Or.inl (wi hw 27 rfl)) Via.refl e22 f25 d5_50 (pc' := 53) rfl ?_
  intro T26 X26 e26
  have hc53 : ¬ ((1 : Int) = (0 : Int)) := by decide
  refine g_ifNo X26 hx hby d5_53 (pc' := 56) (feq (show ¬ ((1 : Int32) = (0 : Int32)) from fun q => hc53 (congrArg Int32.toInt q))).1 rfl ?_
  refine g_aloadN X26 hx hby d5_56 (pc' := 57) rfl rfl rfl ?_
  have f27 := (((Fq7_4.other W12 (Or.inl ne13)).other W17 (Or.inl ne18)).other W22 (Or.inl ne24))
  refine g_getf X26 hx hby hZ hown (host := "") (Or.inl (wi hw 22 rfl)) Via.refl e26 f27 d5_57 (pc' := 60) rfl ?_
  intro T28 X28 e28
  refine g_iload X28 hx hby d5_60 (pc' := 62) rfl rfl ?_
  refine g_iload X28 hx hby d5_62 (pc' := 64) rfl rfl ?_
  have f29 := (((Fq16_4.other W12 (Ne.symm nqb1_b6_4)).other W17 (Ne.symm nqb2_b6_4)).other W22 (Ne.symm nqb5_b6_4))
  refine Go.iastore X28 hx hZ e28 f29 (k := 0) rfl (by decide) (hb hby d5_64) ?_
  intro T30 h30 X30 e30 W30 V30
  show Go p.tables e below s _ _ _ (T30.setTop (mkF m 65 #[.val (.ref a1), .val (.int i1), .val (.int i2), .val (.double d1), .second, .val (.int i3), .val (.int (0 : Int32))] []))
  refine g_aloadN X30 hx hby d5_65 (pc' := 66) rfl rfl rfl ?_
  refine g_iload X30 hx hby d5_66 (pc' := 68) rfl rfl ?_
  refine g_iconst X30 hx hby d5_68 (pc' := 69) rfl (z := (1 : Int32)) rfl ?_
  refine g_iadd X30 hx hby d5_69 (pc' := 70) rfl (z := (1 : Int32)) rfl ?_
  have ne31 : a1 ≠ b6_4 := Nat.ne_of_lt (Nat.lt_of_lt_of_le P17.lt sqb6_4)
  have f32 := ((((Fq8_4.other W12 (Or.inl ne13)).other W17 (Or.inl ne18)).other W22 (Or.inl ne24)).other W30 (Or.inl ne31))
  have f33 := (((((P0.keep Kq4).wr W12).wr W17).wr W22).wr W30)
  refine g_putf X30 hx hby hZ hown (host := "") (Or.inl (wi hw 38 rfl)) Via.refl e30 f32 f33 (Or.inl (wi hw 39 rfl)) (wi hw 2 rfl) (ty := .int) (by decide) rfl rfl d5_70 (pc' := 73) rfl ?_
  intro T34 h34 X34 e34 W34 F34
  have K35 : Keep h0 h34 [a1] := ((((((K0.trans Kq4 (allS (Or.inl (List.mem_of_getElem? (i := 0) rfl)) all0)).wr W12 (Or.inr s5)).wr W17 (Or.inr s6)).wr W22 (Or.inr s9)).wr W30 (Or.inr s10)).wr W34 (Or.inl (List.mem_of_getElem? (i := 0) rfl)))
  refine g_aloadN X34 hx hby d5_73 (pc' := 74) rfl rfl rfl ?_
  refine g_dup X34 hx hby d5_74 (pc' := 75) rfl rfl ?_
  have f36 := (((((Fq9_4.other W12 (Or.inl ne13)).other W17 (Or.inl ne18)).other W22 (Or.inl ne24)).other W30 (Or.inl ne31)).other W34 (Or.inr (slot_ne (Or.inl (wi hw 79 rfl)) (Or.inl (wi hw 39 rfl)) (by decide) (t := .int) (t' := .int) (by decide) (by decide))))
  refine g_getf X34 hx hby hZ hown (host := "") (Or.inl (wi hw 78 rfl)) Via.refl e34 f36 d5_75 (pc' := 78) rfl ?_
  intro T37 X37 e37
  refine g_iconst X37 hx hby d5_78 (pc' := 79) rfl (z := (1 : Int32)) rfl ?_
  refine g_iadd X37 hx hby d5_79 (pc' := 80) rfl rfl ?_
  have f38 := f33.wr W34
  refine g_putf X37 hx hby hZ hown (host := "") (Or.inl (wi hw 78 rfl)) Via.refl e37 f36 f38 (Or.inl (wi hw 79 rfl)) (wi hw 2 rfl) (ty := .int) (by decide) rfl rfl d5_80 (pc' := 83) rfl ?_
  intro T39 h39 X39 e39 W39 F39
  have N39 := (Fr.snoc X39 (Fr.snoc X34 (Fr.snoc X30 (Fr.snoc X22 (Fr.snoc X17 (Fr.snoc X12 N4 gqb1_4) gqb2_4) gqb5_4) gqb6_4) ge_a1) ge_a1)
  refine g_aloadN X39 hx hby d5_83 (pc' := 84) rfl rfl rfl ?_
  refine g_dup X39 hx hby d5_84 (pc' := 85) rfl rfl ?_
  have f40 := ((((((Fq10_4.other W12 (Or.inl ne13)).other W17 (Or.inl ne18)).other W22 (Or.inl ne24)).other W30 (Or.inl ne31)).other W34 (Or.inr (slot_ne (Or.inl (wi hw 81 rfl)) (Or.inl (wi hw 39 rfl)) (by decide) (t := .long) (t' := .int) (by decide) (by decide)))).other W39 (Or.inr (slot_ne (Or.inl (wi hw 81 rfl)) (Or.inl (wi hw 79 rfl)) (by decide) (t := .long) (t' := .int) (by decide) (by decide))))
  refine g_getf X39 hx hby hZ hown (host := "") (Or.inl (wi hw 80 rfl)) Via.refl e39 f40 d5_85 (pc' := 88) rfl ?_
  intro T41 X41 e41
  refine Go.of (fun _ k => XS.lconst X41.here hx rfl (hb hby d5_88) k) ?_
  show Go p.tables e below s _ _ _ (T41.setTop (mkF m 89 #[.val (.ref a1), .val (.int i1), .val (.int i2), .val (.double d1), .second, .val (.int i3), .val (.int (0 : Int32))] [(.long (1 : Int64)), (.long u1), (.ref a1)]))
  refine g_ladd X41 hx hby d5_89 (pc' := 90) rfl rfl ?_
  have f42 := f38.wr W39
  refine g_putf X41 hx hby hZ hown (host := "") (Or.inl (wi hw 80 rfl)) Via.refl e41 f40 f42 (Or.inl (wi hw 81 rfl)) (wi hw 2 rfl) (ty := .long) (by decide) rfl rfl d5_90 (pc' := 93) rfl ?_
  intro T43 h43 X43 e43 W43 F43
  have z44 : n0 ≤ h43.size := (Nat.le_trans (Nat.le_trans (Nat.le_trans (Nat.le_trans z23 (Nat.le_of_eq (Wr.size W30).symm)) (Nat.le_of_eq (Wr.size W34).symm)) (Nat.le_of_eq (Wr.size W39).symm)) (Nat.le_of_eq (Wr.size W43).symm))
  refine g_iload X43 hx hby d5_93 (pc' := 95) rfl rfl ?_
  refine Go.retI X43 hx hlk hret (hb hby d5_95) (by decide) (by decide) ?_
  have f45 := (((((((Fq2_4.other W12 (Or.inl ne13)).other W17 (Or.inl ne18)).other W22 (Or.inl ne24)).other W30 (Or.inl ne31)).other W34 (Or.inr (slot_ne (Or.inl (wi hw 12 rfl)) (Or.inl (wi hw 39 rfl)) (by decide) (t := (.array .int)) (t' := .int) (by decide) (by decide)))).other W39 (Or.inr (slot_ne (Or.inl (wi hw 12 rfl)) (Or.inl (wi hw 79 rfl)) (by decide) (t := (.array .int)) (t' := .int) (by decide) (by decide)))).other W43 (Or.inr (slot_ne (Or.inl (wi hw 12 rfl)) (Or.inl (wi hw 81 rfl)) (by decide) (t := (.array .int)) (t' := .long) (by decide) (by decide))))
  have f46 := ((((((f14.other W17 (Or.inl ne18)).other W22 (Or.inl ne24)).other W30 (Or.inl ne31)).other W34 (Or.inr (slot_ne (Or.inl (wi hw 14 rfl)) (Or.inl (wi hw 39 rfl)) (by decide) (t := (.array .int)) (t' := .int) (by decide) (by decide)))).other W39 (Or.inr (slot_ne (Or.inl (wi hw 14 rfl)) (Or.inl (wi hw 79 rfl)) (by decide) (t := (.array .int)) (t' := .int) (by decide) (by decide)))).other W43 (Or.inr (slot_ne (Or.inl (wi hw 14 rfl)) (Or.inl (wi hw 81 rfl)) (by decide) (t := (.array .int)) (t' := .long) (by decide) (by decide))))
  have f47 := (((((((Fq4_4.other W12 (Or.inl ne13)).other W17 (Or.inl ne18)).other W22 (Or.inl ne24)).other W30 (Or.inl ne31)).other W34 (Or.inr (slot_ne (Or.inl (wi hw 16 rfl)) (Or.inl (wi hw 39 rfl)) (by decide) (t := (.array .int)) (t' := .int) (by decide) (by decide)))).other W39 (Or.inr (slot_ne (Or.inl (wi hw 16 rfl)) (Or.inl (wi hw 79 rfl)) (by decide) (t := (.array .int)) (t' := .int) (by decide) (by decide)))).other W43 (Or.inr (slot_ne (Or.inl (wi hw 16 rfl)) (Or.inl (wi hw 81 rfl)) (by decide) (t := (.array .int)) (t' := .long) (by decide) (by decide))))
  have f48 := (((((((Fq5_4.other W12 (Or.inl ne13)).other W17 (Or.inl ne18)).other W22 (Or.inl ne24)).other W30 (Or.inl ne31)).other W34 (Or.inr (slot_ne (Or.inl (wi hw 18 rfl)) (Or.inl (wi hw 39 rfl)) (by decide) (t := (.array .int)) (t' := .int) (by decide) (by decide)))).other W39 (Or.inr (slot_ne (Or.inl (wi hw 18 rfl)) (Or.inl (wi hw 79 rfl)) (by decide) (t := (.array .int)) (t' := .int) (by decide) (by decide)))).other W43 (Or.inr (slot_ne (Or.inl (wi hw 18 rfl)) (Or.inl (wi hw 81 rfl)) (by decide) (t := (.array .int)) (t' := .long) (by decide) (by decide))))
  have f49 := (((((f19.other W22 (Or.inl ne24)).other W30 (Or.inl ne31)).other W34 (Or.inr (slot_ne (Or.inl (wi hw 21 rfl)) (Or.inl (wi hw 39 rfl)) (by decide) (t := (.array .double)) (t' := .int) (by decide) (by decide)))).other W39 (Or.inr (slot_ne (Or.inl (wi hw 21 rfl)) (Or.inl (wi hw 79 rfl)) (by decide) (t := (.array .double)) (t' := .int) (by decide) (by decide)))).other W43 (Or.inr (slot_ne (Or.inl (wi hw 21 rfl)) (Or.inl (wi hw 81 rfl)) (by decide) (t := (.array .double)) (t' := .long) (by decide) (by decide))))
  have f50 := ((((f27.other W30 (Or.inl ne31)).other W34 (Or.inr (slot_ne (Or.inl (wi hw 23 rfl)) (Or.inl (wi hw 39 rfl)) (by decide) (t := (.array .int)) (t' := .int) (by decide) (by decide)))).other W39 (Or.inr (slot_ne (Or.inl (wi hw 23 rfl)) (Or.inl (wi hw 79 rfl)) (by decide) (t := (.array .int)) (t' := .int) (by decide) (by decide)))).other W43 (Or.inr (slot_ne (Or.inl (wi hw 23 rfl)) (Or.inl (wi hw 81 rfl)) (by decide) (t := (.array .int)) (t' := .long) (by decide) (by decide))))
  rw [e43]
  have f51 := ((((f25.other W30 (Or.inl ne31)).other W34 (Or.inr (slot_ne (Or.inr (wi hw 28 rfl)) (Or.inl (wi hw 39 rfl)) (by decide) (t := .boolean) (t' := .int) (by decide) (by decide)))).other W39 (Or.inr (slot_ne (Or.inr (wi hw 28 rfl)) (Or.inl (wi hw 79 rfl)) (by decide) (t := .boolean) (t' := .int) (by decide) (by decide)))).other W43 (Or.inr (slot_ne (Or.inr (wi hw 28 rfl)) (Or.inl (wi hw 81 rfl)) (by decide) (t := .boolean) (t' := .long) (by decide) (by decide))))
  have f52 := (((((((Fq1_4.other W12 (Or.inl ne13)).other W17 (Or.inl ne18)).other W22 (Or.inl ne24)).other W30 (Or.inl ne31)).other W34 (Or.inr (slot_ne (Or.inl (wi hw 26 rfl)) (Or.inl (wi hw 39 rfl)) (by decide) (t := (.array .long)) (t' := .int) (by decide) (by decide)))).other W39 (Or.inr (slot_ne (Or.inl (wi hw 26 rfl)) (Or.inl (wi hw 79 rfl)) (by decide) (t := (.array .long)) (t' := .int) (by decide) (by decide)))).other W43 (Or.inr (slot_ne (Or.inl (wi hw 26 rfl)) (Or.inl (wi hw 81 rfl)) (by decide) (t := (.array .long)) (t' := .long) (by decide) (by decide))))
  have f53 := ((F34.other W39 (Or.inr (slot_ne (Or.inl (wi hw 39 rfl)) (Or.inl (wi hw 79 rfl)) (by decide) (t := .int) (t' := .int) (by decide) (by decide)))).other W43 (Or.inr (slot_ne (Or.inl (wi hw 39 rfl)) (Or.inl (wi hw 81 rfl)) (by decide) (t := .int) (t' := .long) (by decide) (by decide))))
  have f54 := (F39.other W43 (Or.inr (slot_ne (Or.inl (wi hw 79 rfl)) (Or.inl (wi hw 81 rfl)) (by decide) (t := .int) (t' := .long) (by decide) (by decide))))
  have f55 := ((((((V12.other W17 nqb1_b2_4).other W22 nqb1_b5_4).other W30 nqb1_b6_4).other W34 (Ne.symm ne13)).other W39 (Ne.symm ne13)).other W43 (Ne.symm ne13))
  have f56 := (((((V17.other W22 nqb2_b5_4).other W30 nqb2_b6_4).other W34 (Ne.symm ne18)).other W39 (Ne.symm ne18)).other W43 (Ne.symm ne18))
  have ne57 : a1 ≠ b3_4 := Nat.ne_of_lt (Nat.lt_of_lt_of_le P17.lt sqb3_4)
  have f58 := (((((((Fq13_4.other W12 (Ne.symm nqb1_b3_4)).other W17 (Ne.symm nqb2_b3_4)).other W22 nqb3_b5_4).other W30 nqb3_b6_4).other W34 (Ne.symm ne57)).other W39 (Ne.symm ne57)).other W43 (Ne.symm ne57))
  have ne59 : a1 ≠ b4_4 := Nat.ne_of_lt (Nat.lt_of_lt_of_le P17.lt sqb4_4)
  have f60 := (((((((Fq14_4.other W12 (Ne.symm nqb1_b4_4)).other W17 (Ne.symm nqb2_b4_4)).other W22 nqb4_b5_4).other W30 nqb4_b6_4).other W34 (Ne.symm ne59)).other W39 (Ne.symm ne59)).other W43 (Ne.symm ne59))
  have f61 := ((((V22.other W30 nqb5_b6_4).other W34 (Ne.symm ne24)).other W39 (Ne.symm ne24)).other W43 (Ne.symm ne24))
  have f62 := (((V30.other W34 (Ne.symm ne31)).other W39 (Ne.symm ne31)).other W43 (Ne.symm ne31))
  exact ⟨b1_4, b2_4, b3_4, b4_4, b5_4, b6_4, rfl, (Fr.snoc X43 N39 ge_a1), ((K35.wr W39 (Or.inl (List.mem_of_getElem? (i := 0) rfl))).wr W43 (Or.inl (List.mem_of_getElem? (i := 0) rfl))), gqb1_4, s5, gqb2_4, s6, gqb3_4, s7, gqb4_4, s8, gqb5_4, s9, gqb6_4, s10, nqb1_b2_4, nqb1_b3_4, nqb1_b4_4, nqb1_b5_4, nqb1_b6_4, nqb2_b3_4, nqb2_b4_4, nqb2_b5_4, nqb2_b6_4, nqb3_b4_4, nqb3_b5_4, nqb3_b6_4, nqb4_b5_4, nqb4_b6_4, nqb5_b6_4, f51, f52, f45, f46, f47, f48, f49, f50, f53, f54, F43, f55, f56, f58, f60, f61, f62⟩
theorem ef_rm_addB1 (m : MethodId) (x0 : Addr) (x1 : Int32) (x2 : Int32) (x3 : UInt64) (x4 : Int32) : entryFrame m #[(.ref x0), (.int x1), (.int x2), (.double x3), (.int x4)] 7 = mkF m 0 #[.val (.ref x0), .val (.int x1), .val (.int x2), .val (.double x3), .second, .val (.int x4), .unset] [] := by first | (simp [entryFrame, mkF, argsToLocals, Value.category]; done) | rfl
set_option maxRecDepth 65536 in
set_option maxHeartbeats 40000000 in
theorem rm_addB1 (l : Launch) (Z : State) (a0 : Array Value) (hw : ∀ d ∈ tables_1, d.before a0 Z = true) (a1 : Addr) (i1 : Int32) (i2 : Int32) (d1 : UInt64) (i3 : Int32) (x1 : Addr) (x2 : Addr) (x3 : Addr) (x4 : Addr) (x5 : Addr) (x6 : Addr) (x7 : Addr) (g1 : Nat → Int32) (g2 : Nat → Int32) (g5 : Nat → UInt64) (g6 : Nat → Int32) (t1 : Int32) (t2 : Int32) (u1 : Int64) (k1 : Nat) (h0 : Heap) (n0 : Nat) (Z0 : n0 ≤ h0.size) (P0 : Exa Z h0 a1 "com/example/edgewise/edgewise/EdgeSlots") (P1 : Fld Z h0 a1 "com/example/edgewise/edgewise/EdgeSlots" "keyed" "Z" (.int (1 : Int32))) (P2 : Fld Z h0 a1 "com/example/edgewise/edgewise/EdgeSlots" "keptNumbers" "[J" (.ref x7)) (P3 : Fld Z h0 a1 "com/example/edgewise/edgewise/EdgeSlots" "sources" "[I" (.ref x1)) (P4 : Fld Z h0 a1 "com/example/edgewise/edgewise/EdgeSlots" "targets" "[I" (.ref x2)) (P5 : Fld Z h0 a1 "com/example/edgewise/edgewise/EdgeSlots" "sourcePositions" "[I" (.ref x3)) (P6 : Fld Z h0 a1 "com/example/edgewise/edgewise/EdgeSlots" "targetPositions" "[I" (.ref x4)) (P7 : Fld Z h0 a1 "com/example/edgewise/edgewise/EdgeSlots" "weights" "[D" (.ref x5)) (P8 : Fld Z h0 a1 "com/example/edgewise/edgewise/EdgeSlots" "keys" "[I" (.ref x6)) (P9 : ArF Z h0 x1 .int 4 (fun i => .int (g1 i))) (P10 : ArF Z h0 x2 .int 4 (fun i => .int (g2 i))) (P11 : ArF Z h0 x5 .double 4 (fun i => .double (g5 i))) (P12 : ArF Z h0 x6 .int 4 (fun i => .int (g6 i))) (P13 : Fld Z h0 a1 "com/example/edgewise/edgewise/EdgeSlots" "bound" "I" (.int t1)) (P14 : Fld Z h0 a1 "com/example/edgewise/edgewise/EdgeSlots" "count" "I" (.int t2)) (P15 : Fld Z h0 a1 "com/example/edgewise/edgewise/EdgeSlots" "nextNumber" "J" (.long u1)) (ne_x1_a1 : x1 ≠ a1) (ne_x2_a1 : x2 ≠ a1) (ne_x5_a1 : x5 ≠ a1) (ne_x6_a1 : x6 ≠ a1) (ne_x1_x2 : x1 ≠ x2) (ne_x1_x5 : x1 ≠ x5) (ne_x1_x6 : x1 ≠ x6) (ne_x2_x5 : x2 ≠ x5) (ne_x2_x6 : x2 ≠ x6) (ne_x5_x6 : x5 ≠ x6) (ge_a1 : n0 ≤ a1) (ge_x1 : n0 ≤ x1) (ge_x2 : n0 ≤ x2) (ge_x5 : n0 ≤ x5) (ge_x6 : n0 ≤ x6) (hk : t1.toInt = (k1 : Int)) (hbd : k1 < 4) :
    Con l Z (⟨"com/example/edgewise/edgewise/EdgeSlots", "add", "(IIDI)I"⟩ : MethodName) prog_12_method_2_code 7 (some .int) ({ frames := 0, cells := 0, slots := 0, locals := 0 } : Room) #[(.ref a1), (.int i1), (.int i2), (.double d1), (.int i3)] h0 (fun v h L => v = some (.int t1) ∧ Fr n0 L ∧ Keep h0 h [a1, x1, x2, x5, x6] ∧ Fld Z h a1 "com/example/edgewise/edgewise/EdgeSlots" "keyed" "Z" (.int (1 : Int32)) ∧ Fld Z h a1 "com/example/edgewise/edgewise/EdgeSlots" "keptNumbers" "[J" (.ref x7) ∧ Fld Z h a1 "com/example/edgewise/edgewise/EdgeSlots" "sources" "[I" (.ref x1) ∧ Fld Z h a1 "com/example/edgewise/edgewise/EdgeSlots" "targets" "[I" (.ref x2) ∧ Fld Z h a1 "com/example/edgewise/edgewise/EdgeSlots" "sourcePositions" "[I" (.ref x3) ∧ Fld Z h a1 "com/example/edgewise/edgewise/EdgeSlots" "targetPositions" "[I" (.ref x4) ∧ Fld Z h a1 "com/example/edgewise/edgewise/EdgeSlots" "weights" "[D" (.ref x5) ∧ Fld Z h a1 "com/example/edgewise/edgewise/EdgeSlots" "keys" "[I" (.ref x6) ∧ Fld Z h a1 "com/example/edgewise/edgewise/EdgeSlots" "bound" "I" (.int (t1 + (1 : Int32))) ∧ Fld Z h a1 "com/example/edgewise/edgewise/EdgeSlots" "count" "I" (.int (t2 + (1 : Int32))) ∧ Fld Z h a1 "com/example/edgewise/edgewise/EdgeSlots" "nextNumber" "J" (.long (u1 + (1 : Int64))) ∧ ArF Z h x1 .int 4 (fun i => .int ((upI g1 k1 i1) i)) ∧ ArF Z h x2 .int 4 (fun i => .int ((upI g2 k1 i2) i)) ∧ ArF Z h x5 .double 4 (fun i => .double ((upD g5 k1 d1) i)) ∧ ArF Z h x6 .int 4 (fun i => .int ((upI g6 k1 i3) i))) := by
  refine meet (y := (⟨"com/example/edgewise/edgewise/EdgeSlots", "add", "(IIDI)I"⟩ : MethodName)) (Q := fun v h L => v = some (.int t1) ∧ Fr n0 L ∧ Keep h0 h [a1, x1, x2, x5, x6] ∧ Fld Z h a1 "com/example/edgewise/edgewise/EdgeSlots" "keyed" "Z" (.int (1 : Int32)) ∧ Fld Z h a1 "com/example/edgewise/edgewise/EdgeSlots" "keptNumbers" "[J" (.ref x7) ∧ Fld Z h a1 "com/example/edgewise/edgewise/EdgeSlots" "sources" "[I" (.ref x1) ∧ Fld Z h a1 "com/example/edgewise/edgewise/EdgeSlots" "targets" "[I" (.ref x2) ∧ Fld Z h a1 "com/example/edgewise/edgewise/EdgeSlots" "sourcePositions" "[I" (.ref x3) ∧ Fld Z h a1 "com/example/edgewise/edgewise/EdgeSlots" "targetPositions" "[I" (.ref x4) ∧ Fld Z h a1 "com/example/edgewise/edgewise/EdgeSlots" "weights" "[D" (.ref x5) ∧ Fld Z h a1 "com/example/edgewise/edgewise/EdgeSlots" "keys" "[I" (.ref x6) ∧ Fld Z h a1 "com/example/edgewise/edgewise/EdgeSlots" "bound" "I" (.int (t1 + (1 : Int32))) ∧ Fld Z h a1 "com/example/edgewise/edgewise/EdgeSlots" "count" "I" (.int (t2 + (1 : Int32))) ∧ Fld Z h a1 "com/example/edgewise/edgewise/EdgeSlots" "nextNumber" "J" (.long (u1 + (1 : Int64))) ∧ ArF Z h x1 .int 4 (fun i => .int ((upI g1 k1 i1) i)) ∧ ArF Z h x2 .int 4 (fun i => .int ((upI g2 k1 i2) i)) ∧ ArF Z h x5 .double 4 (fun i => .double ((upD g5 k1 d1) i)) ∧ ArF Z h x6 .int 4 (fun i => .int ((upI g6 k1 i3) i))) (plainFor_of_name pn_com_example_edgewise_edgewise_EdgeSlots) (fun m => ef_rm_addB1 m a1 i1 i2 d1 i3) ?_
  intro p e s m below meth c T0 hx hby hml hZ hown hnm hret hlk X0 e0
  have N0 := Fr.nil n0
  have K0 := Keep.refl h0 [a1, x1, x2, x5, x6]
  refine g_aloadN X0 hx hby d5_0 (pc' := 1) rfl rfl rfl ?_
  refine g_getf X0 hx hby hZ hown (host := "") (Or.inl (wi hw 38 rfl)) Via.refl e0 P13 d5_1 (pc' := 4) rfl ?_
  intro T1 X1 e1
  refine g_istore X1 hx hby d5_4 (pc' := 6) rfl (L' := #[.val (.ref a1), .val (.int i1), .val (.int i2), .val (.double d1), .second, .val (.int i3), .val (.int t1)]) rfl ?_
  refine g_iload X1 hx hby d5_6 (pc' := 8) rfl rfl ?_
  refine g_aloadN X1 hx hby d5_8 (pc' := 9) rfl rfl rfl ?_
  refine g_getf X1 hx hby hZ hown (host := "") (Or.inl (wi hw 11 rfl)) Via.refl e1 P3 d5_9 (pc' := 12) rfl ?_
  intro T2 X2 e2
  refine Go.alen X2 hx hZ e2 P9 (hb hby d5_12) ?_
  show Go p.tables e below s _ _ _ (T2.setTop (mkF m 13 #[.val (.ref a1), .val (.int i1), .val (.int i2), .val (.double d1), .second, .val (.int i3), .val (.int t1)] [(.int (4 : Int32)), (.int t1)]))
  have hc13 : ¬ (t1.toInt = (4 : Int)) := by omega
  refine g_icmpYes X2 hx hby d5_13 (pc' := 25) (feq (show ¬ (t1 = (4 : Int32)) from fun q => hc13 (congrArg Int32.toInt q))).2 (by decide) (by decide) ?_
  refine g_aloadN X2 hx hby d5_25 (pc' := 26) rfl rfl rfl ?_
  refine g_getf X2 hx hby hZ hown (host := "") (Or.inl (wi hw 11 rfl)) Via.refl e2 P3 d5_26 (pc' := 29) rfl ?_
  intro T3 X3 e3
  refine g_iload X3 hx hby d5_29 (pc' := 31) rfl rfl ?_
  refine g_iloadN X3 hx hby d5_31 (pc' := 32) rfl rfl ?_
  refine Go.iastore X3 hx hZ e3 P9 (k := k1) hk hbd (hb hby d5_32) ?_
  intro T4 h4 X4 e4 W4 V4
  show Go p.tables e below s _ _ _ (T4.setTop (mkF m 33 #[.val (.ref a1), .val (.int i1), .val (.int i2), .val (.double d1), .second, .val (.int i3), .val (.int t1)] []))
  refine g_aloadN X4 hx hby d5_33 (pc' := 34) rfl rfl rfl ?_
  have f5 := (P4.other W4 (Or.inl (Ne.symm ne_x1_a1)))
  refine g_getf X4 hx hby hZ hown (host := "") (Or.inl (wi hw 13 rfl)) Via.refl e4 f5 d5_34 (pc' := 37) rfl ?_
  intro T6 X6 e6
  refine g_iload X6 hx hby d5_37 (pc' := 39) rfl rfl ?_
  refine g_iloadN X6 hx hby d5_39 (pc' := 40) rfl rfl ?_
  have f7 := (P10.other W4 (Ne.symm ne_x1_x2))
  refine Go.iastore X6 hx hZ e6 f7 (k := k1) hk hbd (hb hby d5_40) ?_
  intro T8 h8 X8 e8 W8 V8
  show Go p.tables e below s _ _ _ (T8.setTop (mkF m 41 #[.val (.ref a1), .val (.int i1), .val (.int i2), .val (.double d1), .second, .val (.int i3), .val (.int t1)] []))
  refine g_aloadN X8 hx hby d5_41 (pc' := 42) rfl rfl rfl ?_
  have f9 := ((P7.other W4 (Or.inl (Ne.symm ne_x1_a1))).other W8 (Or.inl (Ne.symm ne_x2_a1)))
  refine g_getf X8 hx hby hZ hown (host := "") (Or.inl (wi hw 20 rfl)) Via.refl e8 f9 d5_42 (pc' := 45) rfl ?_
  intro T10 X10 e10
  refine g_iload X10 hx hby d5_45 (pc' := 47) rfl rfl ?_
  refine g_dloadN X10 hx hby d5_47 (pc' := 48) rfl rfl ?_
  have f11 := ((P11.other W4 (Ne.symm ne_x1_x5)).other W8 (Ne.symm ne_x2_x5))
  refine Go.dastore X10 hx hZ e10 f11 (k := k1) hk hbd (hb hby d5_48) ?_
  intro T12 h12 X12 e12 W12 V12
  show Go p.tables e below s _ _ _ (T12.setTop (mkF m 49 #[.val (.ref a1), .val (.int i1), .val (.int i2), .val (.double d1), .second, .val (.int i3), .val (.int t1)] []))
  refine g_aloadN X12 hx hby d5_49 (pc' := 50) rfl rfl rfl ?_
  have f13 := (((P1.other W4 (Or.inl (Ne.symm ne_x1_a1))).other W8 (Or.inl (Ne.symm ne_x2_a1))).other W12 (Or.inl (Ne.symm ne_x5_a1)))
  refine g_getf X12 hx hby hZ hown (host := "") (Or.inl (wi hw 27 rfl)) Via.refl e12 f13 d5_50 (pc' := 53) rfl ?_
  intro T14 X14 e14
  have hc53 : ¬ ((1 : Int) = (0 : Int)) := by decide
  refine g_ifNo X14 hx hby d5_53 (pc' := 56) (feq (show ¬ ((1 : Int32) = (0 : Int32)) from fun q => hc53 (congrArg Int32.toInt q))).1 rfl ?_
  refine g_aloadN X14 hx hby d5_56 (pc' := 57) rfl rfl rfl ?_
  have f15 := (((P8.other W4 (Or.inl (Ne.symm ne_x1_a1))).other W8 (Or.inl (Ne.symm ne_x2_a1))).other W12 (Or.inl (Ne.symm ne_x5_a1)))
  refine g_getf X14 hx hby hZ hown (host := "") (Or.inl (wi hw 22 rfl)) Via.refl e14 f15 d5_57 (pc' := 60) rfl ?_
  intro T16 X16 e16
  refine g_iload X16 hx hby d5_60 (pc' := 62) rfl rfl ?_
  refine g_iload X16 hx hby d5_62 (pc' := 64) rfl rfl ?_
  have f17 := (((P12.other W4 (Ne.symm ne_x1_x6)).other W8 (Ne.symm ne_x2_x6)).other W12 (Ne.symm ne_x5_x6))
  refine Go.iastore X16 hx hZ e16 f17 (k := k1) hk hbd (hb hby d5_64) ?_
  intro T18 h18 X18 e18 W18 V18
  have z19 : n0 ≤ h18.size := (Nat.le_trans (Nat.le_trans (Nat.le_trans (Nat.le_trans Z0 (Nat.le_of_eq (Wr.size W4).symm)) (Nat.le_of_eq (Wr.size W8).symm)) (Nat.le_of_eq (Wr.size W12).symm)) (Nat.le_of_eq (Wr.size W18).symm))
  have K20 : Keep h0 h18 [a1, x1, x2, x5, x6] := ((((K0.wr W4 (Or.inl (List.mem_of_getElem? (i := 1) rfl))).wr W8 (Or.inl (List.mem_of_getElem? (i := 2) rfl))).wr W12 (Or.inl (List.mem_of_getElem? (i := 3) rfl))).wr W18 (Or.inl (List.mem_of_getElem? (i := 4) rfl)))
  show Go p.tables e below s _ _ _ (T18.setTop (mkF m 65 #[.val (.ref a1), .val (.int i1), .val (.int i2), .val (.double d1), .second, .val (.int i3), .val (.int t1)] []))
  refine g_aloadN X18 hx hby d5_65 (pc' := 66) rfl rfl rfl ?_
  refine g_iload X18 hx hby d5_66 (pc' := 68) rfl rfl ?_
  refine g_iconst X18 hx hby d5_68 (pc' := 69) rfl (z := (1 : Int32)) rfl ?_
  refine g_iadd X18 hx hby d5_69 (pc' := 70) rfl rfl ?_
  have f21 := ((((P13.other W4 (Or.inl (Ne.symm ne_x1_a1))).other W8 (Or.inl (Ne.symm ne_x2_a1))).other W12 (Or.inl (Ne.symm ne_x5_a1))).other W18 (Or.inl (Ne.symm ne_x6_a1)))
  have f22 := ((((P0.wr W4).wr W8).wr W12).wr W18)
  refine g_putf X18 hx hby hZ hown (host := "") (Or.inl (wi hw 38 rfl)) Via.refl e18 f21 f22 (Or.inl (wi hw 39 rfl)) (wi hw 2 rfl) (ty := .int) (by decide) rfl rfl d5_70 (pc' := 73) rfl ?_
  intro T23 h23 X23 e23 W23 F23
  refine g_aloadN X23 hx hby d5_73 (pc' := 74) rfl rfl rfl ?_
  refine g_dup X23 hx hby d5_74 (pc' := 75) rfl rfl ?_
  have f24 := (((((P14.other W4 (Or.inl (Ne.symm ne_x1_a1))).other W8 (Or.inl (Ne.symm ne_x2_a1))).other W12 (Or.inl (Ne.symm ne_x5_a1))).other W18 (Or.inl (Ne.symm ne_x6_a1))).other W23 (Or.inr (slot_ne (Or.inl (wi hw 79 rfl)) (Or.inl (wi hw 39 rfl)) (by decide) (t := .int) (t' := .int) (by decide) (by decide))))
  refine g_getf X23 hx hby hZ hown (host := "") (Or.inl (wi hw 78 rfl)) Via.refl e23 f24 d5_75 (pc' := 78) rfl ?_
  intro T25 X25 e25
  refine g_iconst X25 hx hby d5_78 (pc' := 79) rfl (z := (1 : Int32)) rfl ?_
  refine g_iadd X25 hx hby d5_79 (pc' := 80) rfl rfl ?_
  have f26 := f22.wr W23
  refine g_putf X25 hx hby hZ hown (host := "") (Or.inl (wi hw 78 rfl)) Via.refl e25 f24 f26 (Or.inl (wi hw 79 rfl)) (wi hw 2 rfl) (ty := .int) (by decide) rfl rfl d5_80 (pc' := 83) rfl ?_
  intro T27 h27 X27 e27 W27 F27
  refine g_aloadN X27 hx hby d5_83 (pc' := 84) rfl rfl rfl ?_
  refine g_dup X27 hx hby d5_84 (pc' := 85) rfl rfl ?_
  have f28 := ((((((P15.other W4 (Or.inl (Ne.symm ne_x1_a1))).other W8 (Or.inl (Ne.symm ne_x2_a1))).other W12 (Or.inl (Ne.symm ne_x5_a1))).other W18 (Or.inl (Ne.symm ne_x6_a1))).other W23 (Or.inr (slot_ne (Or.inl (wi hw 81 rfl)) (Or.inl (wi hw 39 rfl)) (by decide) (t := .long) (t' := .int) (by decide) (by decide)))).other W27 (Or.inr (slot_ne (Or.inl (wi hw 81 rfl)) (Or.inl (wi hw 79 rfl)) (by decide) (t := .long) (t' := .int) (by decide) (by decide))))
  refine g_getf X27 hx hby hZ hown (host := "") (Or.inl (wi hw 80 rfl)) Via.refl e27 f28 d5_85 (pc' := 88) rfl ?_
  intro T29 X29 e29
  refine Go.of (fun _ k => XS.lconst X29.here hx rfl (hb hby d5_88) k) ?_
  show Go p.tables e below s _ _ _ (T29.setTop (mkF m 89 #[.val (.ref a1), .val (.int i1), .val (.int i2), .val (.double d1), .second, .val (.int i3), .val (.int t1)] [(.long (1 : Int64)), (.long u1), (.ref a1)]))
  refine g_ladd X29 hx hby d5_89 (pc' := 90) rfl rfl ?_
  have f30 := f26.wr W27
  refine g_putf X29 hx hby hZ hown (host := "") (Or.inl (wi hw 80 rfl)) Via.refl e29 f28 f30 (Or.inl (wi hw 81 rfl)) (wi hw 2 rfl) (ty := .long) (by decide) rfl rfl d5_90 (pc' := 93) rfl ?_
  intro T31 h31 X31 e31 W31 F31
  have N31 := (Fr.snoc X31 (Fr.snoc X27 (Fr.snoc X23 (Fr.snoc X18 (Fr.snoc X12 (Fr.snoc X8 (Fr.snoc X4 N0 ge_x1) ge_x2) ge_x5) ge_x6) ge_a1) ge_a1) ge_a1)
  refine g_iload X31 hx hby d5_93 (pc' := 95) rfl rfl ?_
  refine Go.retI X31 hx hlk hret (hb hby d5_95) (by decide) (by decide) ?_
  rw [e31]
  have f32 := ((((f13.other W18 (Or.inl (Ne.symm ne_x6_a1))).other W23 (Or.inr (slot_ne (Or.inr (wi hw 28 rfl)) (Or.inl (wi hw 39 rfl)) (by decide) (t := .boolean) (t' := .int) (by decide) (by decide)))).other W27 (Or.inr (slot_ne (Or.inr (wi hw 28 rfl)) (Or.inl (wi hw 79 rfl)) (by decide) (t := .boolean) (t' := .int) (by decide) (by decide)))).other W31 (Or.inr (slot_ne (Or.inr (wi hw 28 rfl)) (Or.inl (wi hw 81 rfl)) (by decide) (t := .boolean) (t' := .long) (by decide) (by decide))))
  have f33 := (((((((P2.other W4 (Or.inl (Ne.symm ne_x1_a1))).other W8 (Or.inl (Ne.symm ne_x2_a1))).other W12 (Or.inl (Ne.symm ne_x5_a1))).other W18 (Or.inl (Ne.symm ne_x6_a1))).other W23 (Or.inr (slot_ne (Or.inl (wi hw 26 rfl)) (Or.inl (wi hw 39 rfl)) (by decide) (t := (.array .long)) (t' := .int) (by decide) (by decide)))).other W27 (Or.inr (slot_ne (Or.inl (wi hw 26 rfl)) (Or.inl (wi hw 79 rfl)) (by decide) (t := (.array .long)) (t' := .int) (by decide) (by decide)))).other W31 (Or.inr (slot_ne (Or.inl (wi hw 26 rfl)) (Or.inl (wi hw 81 rfl)) (by decide) (t := (.array .long)) (t' := .long) (by decide) (by decide))))
  have f34 := (((((((P3.other W4 (Or.inl (Ne.symm ne_x1_a1))).other W8 (Or.inl (Ne.symm ne_x2_a1))).other W12 (Or.inl (Ne.symm ne_x5_a1))).other W18 (Or.inl (Ne.symm ne_x6_a1))).other W23 (Or.inr (slot_ne (Or.inl (wi hw 12 rfl)) (Or.inl (wi hw 39 rfl)) (by decide) (t := (.array .int)) (t' := .int) (by decide) (by decide)))).other W27 (Or.inr (slot_ne (Or.inl (wi hw 12 rfl)) (Or.inl (wi hw 79 rfl)) (by decide) (t := (.array .int)) (t' := .int) (by decide) (by decide)))).other W31 (Or.inr (slot_ne (Or.inl (wi hw 12 rfl)) (Or.inl (wi hw 81 rfl)) (by decide) (t := (.array .int)) (t' := .long) (by decide) (by decide))))
  have f35 := ((((((f5.other W8 (Or.inl (Ne.symm ne_x2_a1))).other W12 (Or.inl (Ne.symm ne_x5_a1))).other W18 (Or.inl (Ne.symm ne_x6_a1))).other W23 (Or.inr (slot_ne (Or.inl (wi hw 14 rfl)) (Or.inl (wi hw 39 rfl)) (by decide) (t := (.array .int)) (t' := .int) (by decide) (by decide)))).other W27 (Or.inr (slot_ne (Or.inl (wi hw 14 rfl)) (Or.inl (wi hw 79 rfl)) (by decide) (t := (.array .int)) (t' := .int) (by decide) (by decide)))).other W31 (Or.inr (slot_ne (Or.inl (wi hw 14 rfl)) (Or.inl (wi hw 81 rfl)) (by decide) (t := (.array .int)) (t' := .long) (by decide) (by decide))))
  have f36 := (((((((P5.other W4 (Or.inl (Ne.symm ne_x1_a1))).other W8 (Or.inl (Ne.symm ne_x2_a1))).other W12 (Or.inl (Ne.symm ne_x5_a1))).other W18 (Or.inl (Ne.symm ne_x6_a1))).other W23 (Or.inr (slot_ne (Or.inl (wi hw 16 rfl)) (Or.inl (wi hw 39 rfl)) (by decide) (t := (.array .int)) (t' := .int) (by decide) (by decide)))).other W27 (Or.inr (slot_ne (Or.inl (wi hw 16 rfl)) (Or.inl (wi hw 79 rfl)) (by decide) (t := (.array .int)) (t' := .int) (by decide) (by decide)))).other W31 (Or.inr (slot_ne (Or.inl (wi hw 16 rfl)) (Or.inl (wi hw 81 rfl)) (by decide) (t := (.array .int)) (t' := .long) (by decide) (by decide))))
  have f37 := (((((((P6.other W4 (Or.inl (Ne.symm ne_x1_a1))).other W8 (Or.inl (Ne.symm ne_x2_a1))).other W12 (Or.inl (Ne.symm ne_x5_a1))).other W18 (Or.inl (Ne.symm ne_x6_a1))).other W23 (Or.inr (slot_ne (Or.inl (wi hw 18 rfl)) (Or.inl (wi hw 39 rfl)) (by decide) (t := (.array .int)) (t' := .int) (by decide) (by decide)))).other W27 (Or.inr (slot_ne (Or.inl (wi hw 18 rfl)) (Or.inl (wi hw 79 rfl)) (by decide) (t := (.array .int)) (t' := .int) (by decide) (by decide)))).other W31 (Or.inr (slot_ne (Or.inl (wi hw 18 rfl)) (Or.inl (wi hw 81 rfl)) (by decide) (t := (.array .int)) (t' := .long) (by decide) (by decide))))
  have f38 := (((((f9.other W12 (Or.inl (Ne.symm ne_x5_a1))).other W18 (Or.inl (Ne.symm ne_x6_a1))).other W23 (Or.inr (slot_ne (Or.inl (wi hw 21 rfl)) (Or.inl (wi hw 39 rfl)) (by decide) (t := (.array .double)) (t' := .int) (by decide) (by decide)))).other W27 (Or.inr (slot_ne (Or.inl (wi hw 21 rfl)) (Or.inl (wi hw 79 rfl)) (by decide) (t := (.array .double)) (t' := .int) (by decide) (by decide)))).other W31 (Or.inr (slot_ne (Or.inl (wi hw 21 rfl)) (Or.inl (wi hw 81 rfl)) (by decide) (t := (.array .double)) (t' := .long) (by decide) (by decide))))
  have f39 := ((((f15.other W18 (Or.inl (Ne.symm ne_x6_a1))).other W23 (Or.inr (slot_ne (Or.inl (wi hw 23 rfl)) (Or.inl (wi hw 39 rfl)) (by decide) (t := (.array .int)) (t' := .int) (by decide) (by decide)))).other W27 (Or.inr (slot_ne (Or.inl (wi hw 23 rfl)) (Or.inl (wi hw 79 rfl)) (by decide) (t := (.array .int)) (t' := .int) (by decide) (by decide)))).other W31 (Or.inr (slot_ne (Or.inl (wi hw 23 rfl)) (Or.inl (wi hw 81 rfl)) (by decide) (t := (.array .int)) (t' := .long) (by decide) (by decide))))
  have f40 := ((F23.other W27 (Or.inr (slot_ne (Or.inl (wi hw 39 rfl)) (Or.inl (wi hw 79 rfl)) (by decide) (t := .int) (t' := .int) (by decide) (by decide)))).other W31 (Or.inr (slot_ne (Or.inl (wi hw 39 rfl)) (Or.inl (wi hw 81 rfl)) (by decide) (t := .int) (t' := .long) (by decide) (by decide))))
  have f41 := (F27.other W31 (Or.inr (slot_ne (Or.inl (wi hw 79 rfl)) (Or.inl (wi hw 81 rfl)) (by decide) (t := .int) (t' := .long) (by decide) (by decide))))
  have f42 := ((((((V4.other W8 ne_x1_x2).other W12 ne_x1_x5).other W18 ne_x1_x6).other W23 ne_x1_a1).other W27 ne_x1_a1).other W31 ne_x1_a1)
  have f43 := (((((V8.other W12 ne_x2_x5).other W18 ne_x2_x6).other W23 ne_x2_a1).other W27 ne_x2_a1).other W31 ne_x2_a1)
  have f44 := ((((V12.other W18 ne_x5_x6).other W23 ne_x5_a1).other W27 ne_x5_a1).other W31 ne_x5_a1)
  have f45 := (((V18.other W23 ne_x6_a1).other W27 ne_x6_a1).other W31 ne_x6_a1)
  exact ⟨rfl, N31, (((K20.wr W23 (Or.inl (List.mem_of_getElem? (i := 0) rfl))).wr W27 (Or.inl (List.mem_of_getElem? (i := 0) rfl))).wr W31 (Or.inl (List.mem_of_getElem? (i := 0) rfl))), f32, f33, f34, f35, f36, f37, f38, f39, f40, f41, F31, f42, f43, f44, f45⟩
theorem d13_0 : decode prog_12_method_3_code 0 = .ok (.aload_n 0, 1) := by decide +kernel
theorem d13_1 : decode prog_12_method_3_code 1 = .ok (.getfield 7, 3) := by decide +kernel
theorem d13_4 : decode prog_12_method_3_code 4 = .ok (.iload_n 1, 1) := by decide +kernel
theorem d13_5 : decode prog_12_method_3_code 5 = .ok (.iconst (-1), 1) := by decide +kernel
theorem d13_6 : decode prog_12_method_3_code 6 = .ok (.iastore, 1) := by decide +kernel
theorem d13_7 : decode prog_12_method_3_code 7 = .ok (.aload_n 0, 1) := by decide +kernel
theorem d13_8 : decode prog_12_method_3_code 8 = .ok (.getfield 13, 3) := by decide +kernel
theorem d13_11 : decode prog_12_method_3_code 11 = .ok (.iload_n 1, 1) := by decide +kernel
theorem d13_12 : decode prog_12_method_3_code 12 = .ok (.iconst (-1), 1) := by decide +kernel
theorem d13_13 : decode prog_12_method_3_code 13 = .ok (.iastore, 1) := by decide +kernel
theorem d13_14 : decode prog_12_method_3_code 14 = .ok (.aload_n 0, 1) := by decide +kernel
theorem d13_15 : decode prog_12_method_3_code 15 = .ok (.dup, 1) := by decide +kernel
theorem d13_16 : decode prog_12_method_3_code 16 = .ok (.getfield 51, 3) := by decide +kernel
theorem d13_19 : decode prog_12_method_3_code 19 = .ok (.iconst 1, 1) := by decide +kernel
theorem d13_20 : decode prog_12_method_3_code 20 = .ok (.isub, 1) := by decide +kernel
theorem d13_21 : decode prog_12_method_3_code 21 = .ok (.putfield 51, 3) := by decide +kernel
theorem d13_24 : decode prog_12_method_3_code 24 = .ok (.return_, 1) := by decide +kernel
theorem ef_rm_remove4 (m : MethodId) (x0 : Addr) (x1 : Int32) : entryFrame m #[(.ref x0), (.int x1)] 2 = mkF m 0 #[.val (.ref x0), .val (.int x1)] [] := by first | (simp [entryFrame, mkF, argsToLocals, Value.category]; done) | rfl
set_option maxRecDepth 65536 in
set_option maxHeartbeats 40000000 in
theorem rm_remove4 (l : Launch) (Z : State) (a0 : Array Value) (hw : ∀ d ∈ tables_1, d.before a0 Z = true) (a1 : Addr) (i1 : Int32) (x1 : Addr) (x2 : Addr) (g1 : Nat → Int32) (g2 : Nat → Int32) (t1 : Int32) (t2 : Int32) (k1 : Nat) (h0 : Heap) (n0 : Nat) (Z0 : n0 ≤ h0.size) (P0 : Exa Z h0 a1 "com/example/edgewise/edgewise/EdgeSlots") (P1 : Fld Z h0 a1 "com/example/edgewise/edgewise/EdgeSlots" "sources" "[I" (.ref x1)) (P2 : Fld Z h0 a1 "com/example/edgewise/edgewise/EdgeSlots" "targets" "[I" (.ref x2)) (P3 : ArF Z h0 x1 .int 4 (fun i => .int (g1 i))) (P4 : ArF Z h0 x2 .int 4 (fun i => .int (g2 i))) (P5 : Fld Z h0 a1 "com/example/edgewise/edgewise/EdgeSlots" "bound" "I" (.int t1)) (P6 : Fld Z h0 a1 "com/example/edgewise/edgewise/EdgeSlots" "count" "I" (.int t2)) (ne_x1_a1 : x1 ≠ a1) (ne_x2_a1 : x2 ≠ a1) (ne_x1_x2 : x1 ≠ x2) (ge_a1 : n0 ≤ a1) (ge_x1 : n0 ≤ x1) (ge_x2 : n0 ≤ x2) (hk : i1.toInt = (k1 : Int)) (hbd : k1 < 4) :
    Con l Z (⟨"com/example/edgewise/edgewise/EdgeSlots", "remove", "(I)V"⟩ : MethodName) prog_12_method_3_code 2 none ({ frames := 0, cells := 0, slots := 0, locals := 0 } : Room) #[(.ref a1), (.int i1)] h0 (fun v h L => v = none ∧ Fr n0 L ∧ Keep h0 h [a1, x1, x2] ∧ Fld Z h a1 "com/example/edgewise/edgewise/EdgeSlots" "sources" "[I" (.ref x1) ∧ Fld Z h a1 "com/example/edgewise/edgewise/EdgeSlots" "targets" "[I" (.ref x2) ∧ ArF Z h x1 .int 4 (fun i => .int ((upI g1 k1 (-1 : Int32)) i)) ∧ ArF Z h x2 .int 4 (fun i => .int ((upI g2 k1 (-1 : Int32)) i)) ∧ Fld Z h a1 "com/example/edgewise/edgewise/EdgeSlots" "bound" "I" (.int t1) ∧ Fld Z h a1 "com/example/edgewise/edgewise/EdgeSlots" "count" "I" (.int (t2 - (1 : Int32)))) := by
  refine meet (y := (⟨"com/example/edgewise/edgewise/EdgeSlots", "remove", "(I)V"⟩ : MethodName)) (Q := fun v h L => v = none ∧ Fr n0 L ∧ Keep h0 h [a1, x1, x2] ∧ Fld Z h a1 "com/example/edgewise/edgewise/EdgeSlots" "sources" "[I" (.ref x1) ∧ Fld Z h a1 "com/example/edgewise/edgewise/EdgeSlots" "targets" "[I" (.ref x2) ∧ ArF Z h x1 .int 4 (fun i => .int ((upI g1 k1 (-1 : Int32)) i)) ∧ ArF Z h x2 .int 4 (fun i => .int ((upI g2 k1 (-1 : Int32)) i)) ∧ Fld Z h a1 "com/example/edgewise/edgewise/EdgeSlots" "bound" "I" (.int t1) ∧ Fld Z h a1 "com/example/edgewise/edgewise/EdgeSlots" "count" "I" (.int (t2 - (1 : Int32)))) (plainFor_of_name pn_com_example_edgewise_edgewise_EdgeSlots) (fun m => ef_rm_remove4 m a1 i1) ?_
  intro p e s m below meth c T0 hx hby hml hZ hown hnm hret hlk X0 e0
  have N0 := Fr.nil n0
  have K0 := Keep.refl h0 [a1, x1, x2]
  refine g_aloadN X0 hx hby d13_0 (pc' := 1) rfl rfl rfl ?_
  refine g_getf X0 hx hby hZ hown (host := "") (Or.inl (wi hw 11 rfl)) Via.refl e0 P1 d13_1 (pc' := 4) rfl ?_
  intro T1 X1 e1
  refine g_iloadN X1 hx hby d13_4 (pc' := 5) rfl rfl ?_
  refine g_iconst X1 hx hby d13_5 (pc' := 6) rfl (z := (-1 : Int32)) rfl ?_
  refine Go.iastore X1 hx hZ e1 P3 (k := k1) hk hbd (hb hby d13_6) ?_
  intro T2 h2 X2 e2 W2 V2
  show Go p.tables e below s _ _ _ (T2.setTop (mkF m 7 #[.val (.ref a1), .val (.int i1)] []))
  refine g_aloadN X2 hx hby d13_7 (pc' := 8) rfl rfl rfl ?_
  have f3 := (P2.other W2 (Or.inl (Ne.symm ne_x1_a1)))
  refine g_getf X2 hx hby hZ hown (host := "") (Or.inl (wi hw 13 rfl)) Via.refl e2 f3 d13_8 (pc' := 11) rfl ?_
  intro T4 X4 e4
  refine g_iloadN X4 hx hby d13_11 (pc' := 12) rfl rfl ?_
  refine g_iconst X4 hx hby d13_12 (pc' := 13) rfl (z := (-1 : Int32)) rfl ?_
  have f5 := (P4.other W2 (Ne.symm ne_x1_x2))
  refine Go.iastore X4 hx hZ e4 f5 (k := k1) hk hbd (hb hby d13_13) ?_
  intro T6 h6 X6 e6 W6 V6
  show Go p.tables e below s _ _ _ (T6.setTop (mkF m 14 #[.val (.ref a1), .val (.int i1)] []))
  refine g_aloadN X6 hx hby d13_14 (pc' := 15) rfl rfl rfl ?_
  refine g_dup X6 hx hby d13_15 (pc' := 16) rfl rfl ?_
  have f7 := ((P6.other W2 (Or.inl (Ne.symm ne_x1_a1))).other W6 (Or.inl (Ne.symm ne_x2_a1)))
  refine g_getf X6 hx hby hZ hown (host := "") (Or.inl (wi hw 78 rfl)) Via.refl e6 f7 d13_16 (pc' := 19) rfl ?_
  intro T8 X8 e8
  refine g_iconst X8 hx hby d13_19 (pc' := 20) rfl (z := (1 : Int32)) rfl ?_
  refine g_isub X8 hx hby d13_20 (pc' := 21) rfl rfl ?_
  have f9 := ((P0.wr W2).wr W6)
  refine g_putf X8 hx hby hZ hown (host := "") (Or.inl (wi hw 78 rfl)) Via.refl e8 f7 f9 (Or.inl (wi hw 79 rfl)) (wi hw 2 rfl) (ty := .int) (by decide) rfl rfl d13_21 (pc' := 24) rfl ?_
  intro T10 h10 X10 e10 W10 F10
  refine Go.retV X10 hx hlk hret (hb hby d13_24) rfl (by decide) (by decide) ?_
  rw [e10]
  have f11 := (((P1.other W2 (Or.inl (Ne.symm ne_x1_a1))).other W6 (Or.inl (Ne.symm ne_x2_a1))).other W10 (Or.inr (slot_ne (Or.inl (wi hw 12 rfl)) (Or.inl (wi hw 79 rfl)) (by decide) (t := (.array .int)) (t' := .int) (by decide) (by decide))))
  have f12 := ((f3.other W6 (Or.inl (Ne.symm ne_x2_a1))).other W10 (Or.inr (slot_ne (Or.inl (wi hw 14 rfl)) (Or.inl (wi hw 79 rfl)) (by decide) (t := (.array .int)) (t' := .int) (by decide) (by decide))))
  have f13 := ((V2.other W6 ne_x1_x2).other W10 ne_x1_a1)
  have f14 := V6.other W10 ne_x2_a1
  have f15 := (((P5.other W2 (Or.inl (Ne.symm ne_x1_a1))).other W6 (Or.inl (Ne.symm ne_x2_a1))).other W10 (Or.inr (slot_ne (Or.inl (wi hw 39 rfl)) (Or.inl (wi hw 79 rfl)) (by decide) (t := .int) (t' := .int) (by decide) (by decide))))
  exact ⟨rfl, (Fr.snoc X10 (Fr.snoc X6 (Fr.snoc X2 N0 ge_x1) ge_x2) ge_a1), (((K0.wr W2 (Or.inl (List.mem_of_getElem? (i := 1) rfl))).wr W6 (Or.inl (List.mem_of_getElem? (i := 2) rfl))).wr W10 (Or.inl (List.mem_of_getElem? (i := 0) rfl))), f11, f12, f13, f14, f15, F10⟩
theorem d3_0 : decode method_2_code 0 = .ok (.iload_n 0, 1) := by decide +kernel
theorem d3_1 : decode method_2_code 1 = .ok (.iload_n 1, 1) := by decide +kernel
theorem d3_2 : decode method_2_code 2 = .ok (.if_icmp .ge 15, 3) := by decide +kernel
theorem d3_5 : decode method_2_code 5 = .ok (.iload_n 2, 1) := by decide +kernel
theorem d3_6 : decode method_2_code 6 = .ok (.iload_n 0, 1) := by decide +kernel
theorem d3_7 : decode method_2_code 7 = .ok (.ishr, 1) := by decide +kernel
theorem d3_8 : decode method_2_code 8 = .ok (.iconst 1, 1) := by decide +kernel
theorem d3_9 : decode method_2_code 9 = .ok (.iand, 1) := by decide +kernel
theorem d3_10 : decode method_2_code 10 = .ok (.ifCond .ne 7, 3) := by decide +kernel
theorem d3_13 : decode method_2_code 13 = .ok (.iconst 1, 1) := by decide +kernel
theorem d3_14 : decode method_2_code 14 = .ok (.goto 4, 3) := by decide +kernel
theorem d3_18 : decode method_2_code 18 = .ok (.ireturn, 1) := by decide +kernel
theorem d3_17 : decode method_2_code 17 = .ok (.iconst 0, 1) := by decide +kernel
theorem ef_rm_live (m : MethodId) (x0 : Int32) (x1 : Int32) (x2 : Int32) : entryFrame m #[(.int x0), (.int x1), (.int x2)] 3 = mkF m 0 #[.val (.int x0), .val (.int x1), .val (.int x2)] [] := by first | (simp [entryFrame, mkF, argsToLocals, Value.category]; done) | rfl
theorem pn_com_example_edgewise_edgewise_EdgeSlotsNextLivePinLaw : plainName "com/example/edgewise/edgewise/EdgeSlotsNextLivePinLaw" = true := by first | (simp [plainName, overriddenIn]; done) | decide +kernel
set_option maxRecDepth 65536 in
set_option maxHeartbeats 40000000 in
theorem rm_live (l : Launch) (Z : State) (a0 : Array Value) (hw : ∀ d ∈ tables_1, d.before a0 Z = true) (i1 : Int32) (i2 : Int32) (i3 : Int32) (h0 : Heap) (n0 : Nat) (Z0 : n0 ≤ h0.size)  :
    Con l Z (⟨"com/example/edgewise/edgewise/EdgeSlotsNextLivePinLaw", "live", "(III)Z"⟩ : MethodName) method_2_code 3 (some .boolean) ({ frames := 0, cells := 0, slots := 0, locals := 0 } : Room) #[(.int i1), (.int i2), (.int i3)] h0 (fun v h L => v = some (.int (own_live i1 i2 i3)) ∧ Fr n0 L ∧ h = h0) := by
  refine meet (y := (⟨"com/example/edgewise/edgewise/EdgeSlotsNextLivePinLaw", "live", "(III)Z"⟩ : MethodName)) (Q := fun v h L => v = some (.int (own_live i1 i2 i3)) ∧ Fr n0 L ∧ h = h0) (plainFor_of_name pn_com_example_edgewise_edgewise_EdgeSlotsNextLivePinLaw) (fun m => ef_rm_live m i1 i2 i3) ?_
  intro p e s m below meth c T0 hx hby hml hZ hown hnm hret hlk X0 e0
  have N0 := Fr.nil n0
  refine g_iloadN X0 hx hby d3_0 (pc' := 1) rfl rfl ?_
  refine g_iloadN X0 hx hby d3_1 (pc' := 2) rfl rfl ?_
  by_cases hc2 : i1.toInt < i2.toInt
  · refine g_icmpNo X0 hx hby d3_2 (pc' := 5) (tlt (show i1 < i2 from Int32.lt_iff_toInt_lt.mpr hc2)).2.1 rfl ?_
    refine g_iloadN X0 hx hby d3_5 (pc' := 6) rfl rfl ?_
    refine g_iloadN X0 hx hby d3_6 (pc' := 7) rfl rfl ?_
    refine g_ishr X0 hx hby d3_7 (pc' := 8) rfl rfl ?_
    refine g_iconst X0 hx hby d3_8 (pc' := 9) rfl (z := (1 : Int32)) rfl ?_
    refine g_iand X0 hx hby d3_9 (pc' := 10) rfl rfl ?_
    by_cases hc10 : ((i3 >>> (i1 &&& 31)) &&& (1 : Int32)).toInt = (0 : Int)
    · refine g_ifNo X0 hx hby d3_10 (pc' := 13) (teq (show ((i3 >>> (i1 &&& 31)) &&& (1 : Int32)) = (0 : Int32) from Int32.toInt_inj.mp hc10)).2 rfl ?_
      refine g_iconst X0 hx hby d3_13 (pc' := 14) rfl (z := (1 : Int32)) rfl ?_
      refine g_goto X0 hx hby d3_14 (pc' := 18) (by decide) (by decide) ?_
      refine Go.retZ X0 hx hlk hret (by simp) (hb hby d3_18) (by decide) (by decide) ?_
      exact ⟨(by rw [own_live, if_pos (by omega)]; rfl), N0, e0⟩
    · refine g_ifYes X0 hx hby d3_10 (pc' := 17) (feq (show ¬ (((i3 >>> (i1 &&& 31)) &&& (1 : Int32)) = (0 : Int32)) from fun q => hc10 (congrArg Int32.toInt q))).2 (by decide) (by decide) ?_
      refine g_iconst X0 hx hby d3_17 (pc' := 18) rfl (z := (0 : Int32)) rfl ?_
      refine Go.retZ X0 hx hlk hret (by simp) (hb hby d3_18) (by decide) (by decide) ?_
      exact ⟨(by rw [own_live, if_neg (by omega)]; rfl), N0, e0⟩
  · refine g_icmpYes X0 hx hby d3_2 (pc' := 17) (flt (show ¬ (i1 < i2) from fun q => hc2 (Int32.lt_iff_toInt_lt.mp q))).2.1 (by decide) (by decide) ?_
    refine g_iconst X0 hx hby d3_17 (pc' := 18) rfl (z := (0 : Int32)) rfl ?_
    refine Go.retZ X0 hx hlk hret (by simp) (hb hby d3_18) (by decide) (by decide) ?_
    exact ⟨(by rw [own_live, if_neg (by omega)]; rfl), N0, e0⟩
theorem d4_0 : decode prog_12_method_8_code 0 = .ok (.iload_n 1, 1) := by decide +kernel
theorem d4_1 : decode prog_12_method_8_code 1 = .ok (.istore_n 2, 1) := by decide +kernel
theorem d4_2 : decode prog_12_method_8_code 2 = .ok (.iload_n 2, 1) := by decide +kernel
theorem d4_3 : decode prog_12_method_8_code 3 = .ok (.aload_n 0, 1) := by decide +kernel
theorem d4_4 : decode prog_12_method_8_code 4 = .ok (.getfield 37, 3) := by decide +kernel
theorem d4_7 : decode prog_12_method_8_code 7 = .ok (.if_icmp .ge 19, 3) := by decide +kernel
theorem d4_10 : decode prog_12_method_8_code 10 = .ok (.aload_n 0, 1) := by decide +kernel
theorem d4_11 : decode prog_12_method_8_code 11 = .ok (.getfield 7, 3) := by decide +kernel
theorem d4_14 : decode prog_12_method_8_code 14 = .ok (.iload_n 2, 1) := by decide +kernel
theorem d4_15 : decode prog_12_method_8_code 15 = .ok (.iaload, 1) := by decide +kernel
theorem d4_16 : decode prog_12_method_8_code 16 = .ok (.iconst (-1), 1) := by decide +kernel
theorem d4_17 : decode prog_12_method_8_code 17 = .ok (.if_icmp .ne 9, 3) := by decide +kernel
theorem d4_20 : decode prog_12_method_8_code 20 = .ok (.iinc 2 1, 3) := by decide +kernel
theorem d4_23 : decode prog_12_method_8_code 23 = .ok (.goto (-21), 3) := by decide +kernel
theorem d4_26 : decode prog_12_method_8_code 26 = .ok (.iload_n 2, 1) := by decide +kernel
theorem d4_27 : decode prog_12_method_8_code 27 = .ok (.ireturn, 1) := by decide +kernel
theorem ef_rm_nl (m : MethodId) (x0 : Addr) (x1 : Int32) : entryFrame m #[(.ref x0), (.int x1)] 3 = mkF m 0 #[.val (.ref x0), .val (.int x1), .unset] [] := by first | (simp [entryFrame, mkF, argsToLocals, Value.category]; done) | rfl
set_option maxRecDepth 65536 in
set_option maxHeartbeats 40000000 in
theorem rm_nl (l : Launch) (Z : State) (a0 : Array Value) (hw : ∀ d ∈ tables_1, d.before a0 Z = true) (a1 : Addr) (i1 : Int32) (x1 : Addr) (n1 : Nat) (g1 : Nat → Int32) (t1 : Int32) (kb : Nat) (ks : Nat) (h0 : Heap) (n0 : Nat) (Z0 : n0 ≤ h0.size) (P0 : Fld Z h0 a1 "com/example/edgewise/edgewise/EdgeSlots" "bound" "I" (.int t1)) (P1 : Fld Z h0 a1 "com/example/edgewise/edgewise/EdgeSlots" "sources" "[I" (.ref x1)) (P2 : ArF Z h0 x1 .int n1 (fun i => .int (g1 i))) (hbb : t1.toInt = (kb : Int)) (hs : i1.toInt = (ks : Int)) (hl : kb ≤ n1) (hle : ks ≤ kb) :
    Con l Z (⟨"com/example/edgewise/edgewise/EdgeSlots", "nextLive", "(I)I"⟩ : MethodName) prog_12_method_8_code 3 (some .int) ({ frames := 0, cells := 0, slots := 0, locals := 0 } : Room) #[(.ref a1), (.int i1)] h0 (fun v h L => v = some (.int (own_nl g1 (kb - ks) ks)) ∧ Fr n0 L ∧ h = h0) := by
  refine meet (y := (⟨"com/example/edgewise/edgewise/EdgeSlots", "nextLive", "(I)I"⟩ : MethodName)) (Q := fun v h L => v = some (.int (own_nl g1 (kb - ks) ks)) ∧ Fr n0 L ∧ h = h0) (plainFor_of_name pn_com_example_edgewise_edgewise_EdgeSlots) (fun m => ef_rm_nl m a1 i1) ?_
  intro p e s m below meth c T0 hx hby hml hZ hown hnm hret hlk X0 e0
  have N0 := Fr.nil n0
  have hlen := P2.len
  refine g_iloadN X0 hx hby d4_0 (pc' := 1) rfl rfl ?_
  refine g_istoreN X0 hx hby d4_1 (pc' := 2) rfl (L' := #[.val (.ref a1), .val (.int i1), .val (.int i1)]) rfl ?_
  refine Go.loop (α := State × (List Loc) × Int32 × Nat) (P := fun kq x => (fun (Tj2 : State) (Lj2 : List Loc) (iv : Int32) (ki : Nat) => Stand p l e ({ frames := 0, cells := 0, slots := 0, locals := 0 } : Room) s m #[(.ref a1), (.int i1)] below meth c Tj2 Lj2 0 0 ∧ Tj2.heap = h0 ∧ Fr n0 Lj2 ∧ (iv.toInt = (ki : Int) ∧ ki ≤ kb ∧ kq = kb - ki ∧ own_nl g1 (kb - ki) ki = own_nl g1 (kb - ks) ks)) x.1 x.2.1 x.2.2.1 x.2.2.2) (F := fun x => (fun (Tj2 : State) (Lj2 : List Loc) (iv : Int32) (ki : Nat) => Tj2.setTop (mkF m 2 #[.val (.ref a1), .val (.int i1), .val (.int iv)] [])) x.1 x.2.1 x.2.2.1 x.2.2.2) ?_ (kb - ks) (T0, _, i1, ks) ⟨X0.more (by decide) (by decide), e0, N0, (show i1.toInt = (ks : Int) ∧ ks ≤ kb ∧ (kb - ks) = kb - ks ∧ own_nl g1 (kb - ks) ks = own_nl g1 (kb - ks) ks from ⟨hs, hle, rfl, rfl⟩)⟩
  rintro kq ⟨Tj2, Lj2, iv, ki⟩ hP2 IH2
  obtain ⟨Xj2, ej2, Nj2, hJ2⟩ : Stand p l e ({ frames := 0, cells := 0, slots := 0, locals := 0 } : Room) s m #[(.ref a1), (.int i1)] below meth c Tj2 Lj2 0 0 ∧ Tj2.heap = h0 ∧ Fr n0 Lj2 ∧ (iv.toInt = (ki : Int) ∧ ki ≤ kb ∧ kq = kb - ki ∧ own_nl g1 (kb - ki) ki = own_nl g1 (kb - ks) ks) := hP2
  show Go p.tables e below s _ _ _ (Tj2.setTop (mkF m 2 #[.val (.ref a1), .val (.int i1), .val (.int iv)] []))
  obtain ⟨hiv, hki, hkq, hnl⟩ := hJ2
  refine g_iloadN Xj2 hx hby d4_2 (pc' := 3) rfl rfl ?_
  refine g_aloadN Xj2 hx hby d4_3 (pc' := 4) rfl rfl rfl ?_
  refine g_getf Xj2 hx hby hZ hown (host := "") (Or.inl (wi hw 38 rfl)) Via.refl ej2 P0 d4_4 (pc' := 7) rfl ?_
  intro T1 X1 e1
  by_cases hc7 : iv.toInt < t1.toInt
  · refine g_icmpNo X1 hx hby d4_7 (pc' := 10) (tlt (show iv < t1 from Int32.lt_iff_toInt_lt.mpr hc7)).2.1 rfl ?_
    refine g_aloadN X1 hx hby d4_10 (pc' := 11) rfl rfl rfl ?_
    refine g_getf X1 hx hby hZ hown (host := "") (Or.inl (wi hw 11 rfl)) Via.refl e1 P1 d4_11 (pc' := 14) rfl ?_
    intro T2 X2 e2
    refine g_iloadN X2 hx hby d4_14 (pc' := 15) rfl rfl ?_
    refine Go.iaload X2 hx hZ e2 P2 (k := ki) hiv (by omega) (hb hby d4_15) ?_
    show Go p.tables e below s _ _ _ (T2.setTop (mkF m 16 #[.val (.ref a1), .val (.int i1), .val (.int iv)] [(.int (g1 ki))]))
    refine g_iconst X2 hx hby d4_16 (pc' := 17) rfl (z := (-1 : Int32)) rfl ?_
    by_cases hc17 : (g1 ki).toInt = (-1 : Int)
    · refine g_icmpNo X2 hx hby d4_17 (pc' := 20) (teq (show (g1 ki) = (-1 : Int32) from Int32.toInt_inj.mp hc17)).2 rfl ?_
      refine g_iinc X2 hx hby d4_20 (pc' := 23) rfl rfl (L' := #[.val (.ref a1), .val (.int i1), .val (.int (iv + (1 : Int32)))]) rfl ?_
      refine g_goto X2 hx hby d4_23 (pc' := 2) (by decide) (by decide) ?_
      have hd : kb - ki = (kb - (ki + 1)) + 1 := by omega
      have hnx : own_nl g1 (kb - (ki + 1)) (ki + 1) = own_nl g1 (kb - ks) ks := by
        rw [← hnl, hd, own_nl, if_pos hc17]
      exact IH2 (kb - (ki + 1)) (T2, _, (iv + (1 : Int32)), (ki + 1)) (by omega) ⟨X2.more (by decide) (by decide), e2, Nj2, (show (iv + (1 : Int32)).toInt = ((ki + 1) : Int) ∧ (ki + 1) ≤ kb ∧ (kb - (ki + 1)) = kb - (ki + 1) ∧ own_nl g1 (kb - (ki + 1)) (ki + 1) = own_nl g1 (kb - ks) ks from ⟨by have : ((iv + (1 : Int32)).toInt - (iv.toInt + (1))) % 4294967296 = 0 := c_iadd _ _; have : -2147483648 ≤ (iv + (1 : Int32)).toInt ∧ (iv + (1 : Int32)).toInt < 2147483648 := rng32 _; have : -2147483648 ≤ iv.toInt ∧ iv.toInt < 2147483648 := rng32 _; omega, by omega, by omega, hnx⟩)⟩
    · refine g_icmpYes X2 hx hby d4_17 (pc' := 26) (feq (show ¬ ((g1 ki) = (-1 : Int32)) from fun q => hc17 (congrArg Int32.toInt q))).2 (by decide) (by decide) ?_
      refine g_iloadN X2 hx hby d4_26 (pc' := 27) rfl rfl ?_
      refine Go.retI X2 hx hlk hret (hb hby d4_27) (by decide) (by decide) ?_
      have hrt : own_nl g1 (kb - ks) ks = iv := by
        have hd : kb - ki = (kb - (ki + 1)) + 1 := by omega
        rw [← hnl, hd, own_nl, if_neg hc17]
        exact own_ofn iv ki hiv (by omega)
      exact ⟨(by rw [hrt]), Nj2, e2⟩
  · refine g_icmpYes X1 hx hby d4_7 (pc' := 26) (flt (show ¬ (iv < t1) from fun q => hc7 (Int32.lt_iff_toInt_lt.mp q))).2.1 (by decide) (by decide) ?_
    refine g_iloadN X1 hx hby d4_26 (pc' := 27) rfl rfl ?_
    refine Go.retI X1 hx hlk hret (hb hby d4_27) (by decide) (by decide) ?_
    have hrt : own_nl g1 (kb - ks) ks = iv := by
      have hd : kb - ki = 0 := by omega
      rw [← hnl, hd, own_nl]
      exact own_ofn iv ki hiv (by omega)
    exact ⟨(by rw [hrt]), Nj2, e1⟩
theorem pd_aIIIzZ : parseMethodDescriptor "(III)Z" = some ⟨[.int, .int, .int], some .boolean⟩ := by decide +kernel
theorem pd_aZzV : parseMethodDescriptor "(Z)V" = some ⟨[.boolean], none⟩ := by decide +kernel
theorem pd_aIIDIzI : parseMethodDescriptor "(IIDI)I" = some ⟨[.int, .int, .double, .int], some .int⟩ := by decide +kernel
theorem ef_rm0 (m : MethodId) (x0 : Int32) (x1 : Int32) (x2 : Int32) (x3 : Int32) (x4 : Int32) (x5 : Int32) : entryFrame m #[(.int x0), (.int x1), (.int x2), (.int x3), (.int x4), (.int x5)] maxLocals = mkF m 0 #[.val (.int x0), .val (.int x1), .val (.int x2), .val (.int x3), .val (.int x4), .val (.int x5), .unset, .unset, .unset, .unset, .unset, .unset, .unset, .unset] [] := by first | (simp [entryFrame, mkF, argsToLocals, Value.category, maxLocals]; done) | rfl
set_option maxRecDepth 65536 in
set_option maxHeartbeats 40000000 in
theorem rm0 (l : Launch) (Z : State) (a0 : Array Value) (hw : ∀ d ∈ tables_1, d.before a0 Z = true) (ws : List Jvm.Cond) (p1 p2 p3 p4 p5 p6 : Int32) (h0 : Heap) (n0 : Nat) (Z0 : n0 ≤ h0.size)  :
    MetFree l x (head1 (Jvm.Cond.code x code maxLocals ret :: ws) room_1) (fun a U => a = #[(.int p1), (.int p2), (.int p3), (.int p4), (.int p5), (.int p6)] ∧ Z.Warmed39 U.vm ∧ U.heap = h0) (fun _ _ _ _ _ => True) (fun _ U o U' => ∃ v L, o = .returned v ∧ (fun v h L => v = some (.int 1) ∧ Fr n0 L) v U'.heap L ∧ FrameEnd U o U' L room_1.cells room_1.slots) := by
  refine meet (y := x) (Q := fun v h L => v = some (.int 1) ∧ Fr n0 L) (plainFor_of_name pn_com_example_edgewise_edgewise_EdgeSlotsNextLivePinLaw) (fun m => ef_rm0 m p1 p2 p3 p4 p5 p6) ?_
  intro p e s m below meth c T0 hx hby hml hZ hown hnm hret hlk X0 e0
  have N0 := Fr.nil n0
  have hml : c.maxLocals = 14 := hml
  refine g_iloadN X0 hx hby at_0 (pc' := 1) rfl rfl ?_
  refine g_ldcI X0 hx hby hZ hown (wi hw 0 rfl) at_1 (pc' := 3) rfl ?_
  refine g_iand X0 hx hby at_3 (pc' := 4) rfl rfl ?_
  refine g_iconst X0 hx hby at_4 (pc' := 5) rfl (z := (5 : Int32)) rfl ?_
  refine g_irem X0 hx hby at_5 (pc' := 6) rfl (by decide) rfl ?_
  show Go p.tables e below s _ _ _ (T0.setTop (mkF m 6 #[.val (.int p1), .val (.int p2), .val (.int p3), .val (.int p4), .val (.int p5), .val (.int p6), .unset, .unset, .unset, .unset, .unset, .unset, .unset, .unset] [(.int ((p1 &&& (2147483647 : Int32)) % (5 : Int32)))]))
  generalize hv1 : ((p1 &&& (2147483647 : Int32)) % (5 : Int32)) = v1
  refine g_istore X0 hx hby at_6 (pc' := 8) rfl (L' := #[.val (.int p1), .val (.int p2), .val (.int p3), .val (.int p4), .val (.int p5), .val (.int p6), .val (.int v1), .unset, .unset, .unset, .unset, .unset, .unset, .unset]) rfl ?_
  have hn : 0 ≤ v1.toInt ∧ v1.toInt ≤ 4 := by rw [← hv1]; have : (0 ≤ (p1 &&& (2147483647 : Int32)).toInt → ((p1 &&& (2147483647 : Int32)) % (5 : Int32)).toInt = (p1 &&& (2147483647 : Int32)).toInt % 5) ∧ ((p1 &&& (2147483647 : Int32)).toInt < 0 → ((p1 &&& (2147483647 : Int32)) % (5 : Int32)).toInt = -((-(p1 &&& (2147483647 : Int32)).toInt) % 5)) := c_irem _ _ 5 rfl; have : -2147483648 ≤ ((p1 &&& (2147483647 : Int32)) % (5 : Int32)).toInt ∧ ((p1 &&& (2147483647 : Int32)) % (5 : Int32)).toInt < 2147483648 := rng32 _; have : (p1 &&& (2147483647 : Int32)).toInt = p1.toInt % 2147483648 := c_mask _ _ 31 (by decide) (by decide); have : -2147483648 ≤ (p1 &&& (2147483647 : Int32)).toInt ∧ (p1 &&& (2147483647 : Int32)).toInt < 2147483648 := rng32 _; have : -2147483648 ≤ p1.toInt ∧ p1.toInt < 2147483648 := rng32 _; omega
  have hcs : v1 = (0 : Int32) ∨ v1 = (1 : Int32) ∨ v1 = (2 : Int32) ∨ v1 = (3 : Int32) ∨ v1 = (4 : Int32) := by
    have : v1.toInt = 0 ∨ v1.toInt = 1 ∨ v1.toInt = 2 ∨ v1.toInt = 3 ∨ v1.toInt = 4 := by omega
    rcases this with h | h | h | h | h
    · exact Or.inl (Int32.toInt_inj.mp h)
    · exact Or.inr (Or.inl (Int32.toInt_inj.mp h))
    · exact Or.inr (Or.inr (Or.inl (Int32.toInt_inj.mp h)))
    · exact Or.inr (Or.inr (Or.inr (Or.inl (Int32.toInt_inj.mp h))))
    · exact Or.inr (Or.inr (Or.inr (Or.inr ((Int32.toInt_inj.mp h)))))
  clear hv1
  rcases hcs with rfl | rfl | rfl | rfl | rfl
  · show Go p.tables e below s _ _ _ (T0.setTop (mkF m 8 #[.val (.int p1), .val (.int p2), .val (.int p3), .val (.int p4), .val (.int p5), .val (.int p6), .val (.int (0 : Int32)), .unset, .unset, .unset, .unset, .unset, .unset, .unset] []))
    refine g_iloadN X0 hx hby at_8 (pc' := 9) rfl rfl ?_
    refine g_bipush X0 hx hby at_9 (pc' := 11) rfl (z := (15 : Int32)) rfl ?_
    refine g_iand X0 hx hby at_11 (pc' := 12) rfl rfl ?_
    show Go p.tables e below s _ _ _ (T0.setTop (mkF m 12 #[.val (.int p1), .val (.int p2), .val (.int p3), .val (.int p4), .val (.int p5), .val (.int p6), .val (.int (0 : Int32)), .unset, .unset, .unset, .unset, .unset, .unset, .unset] [(.int (p2 &&& (15 : Int32)))]))
    generalize hv2 : (p2 &&& (15 : Int32)) = v2
    refine g_istore X0 hx hby at_12 (pc' := 14) rfl (L' := #[.val (.int p1), .val (.int p2), .val (.int p3), .val (.int p4), .val (.int p5), .val (.int p6), .val (.int (0 : Int32)), .val (.int v2), .unset, .unset, .unset, .unset, .unset, .unset]) rfl ?_
    refine g_iloadN X0 hx hby at_14 (pc' := 15) rfl rfl ?_
    refine g_ldcI X0 hx hby hZ hown (wi hw 0 rfl) at_15 (pc' := 17) rfl ?_
    refine g_iand X0 hx hby at_17 (pc' := 18) rfl rfl ?_
    refine g_iload X0 hx hby at_18 (pc' := 20) rfl rfl ?_
    refine g_iconst X0 hx hby at_20 (pc' := 21) rfl (z := (1 : Int32)) rfl ?_
    refine g_iadd X0 hx hby at_21 (pc' := 22) rfl (z := (1 : Int32)) rfl ?_
    refine g_irem X0 hx hby at_22 (pc' := 23) rfl (by decide) rfl ?_
    show Go p.tables e below s _ _ _ (T0.setTop (mkF m 23 #[.val (.int p1), .val (.int p2), .val (.int p3), .val (.int p4), .val (.int p5), .val (.int p6), .val (.int (0 : Int32)), .val (.int v2), .unset, .unset, .unset, .unset, .unset, .unset] [(.int ((p3 &&& (2147483647 : Int32)) % (1 : Int32)))]))
    generalize hv3 : ((p3 &&& (2147483647 : Int32)) % (1 : Int32)) = v3
    refine g_istore X0 hx hby at_23 (pc' := 25) rfl (L' := #[.val (.int p1), .val (.int p2), .val (.int p3), .val (.int p4), .val (.int p5), .val (.int p6), .val (.int (0 : Int32)), .val (.int v2), .val (.int v3), .unset, .unset, .unset, .unset, .unset]) rfl ?_
    refine g_iloadN X0 hx hby at_25 (pc' := 26) rfl rfl ?_
    refine g_ldcI X0 hx hby hZ hown (wi hw 0 rfl) at_26 (pc' := 28) rfl ?_
    refine g_iand X0 hx hby at_28 (pc' := 29) rfl rfl ?_
    show Go p.tables e below s _ _ _ (T0.setTop (mkF m 29 #[.val (.int p1), .val (.int p2), .val (.int p3), .val (.int p4), .val (.int p5), .val (.int p6), .val (.int (0 : Int32)), .val (.int v2), .val (.int v3), .unset, .unset, .unset, .unset, .unset] [(.int (p4 &&& (2147483647 : Int32)))]))
    generalize hv4 : (p4 &&& (2147483647 : Int32)) = v4
    refine g_istore X0 hx hby at_29 (pc' := 31) rfl (L' := #[.val (.int p1), .val (.int p2), .val (.int p3), .val (.int p4), .val (.int p5), .val (.int p6), .val (.int (0 : Int32)), .val (.int v2), .val (.int v3), .val (.int v4), .unset, .unset, .unset, .unset]) rfl ?_
    refine g_iload X0 hx hby at_31 (pc' := 33) rfl rfl ?_
    refine g_ldcI X0 hx hby hZ hown (wi hw 0 rfl) at_33 (pc' := 35) rfl ?_
    refine g_iand X0 hx hby at_35 (pc' := 36) rfl rfl ?_
    show Go p.tables e below s _ _ _ (T0.setTop (mkF m 36 #[.val (.int p1), .val (.int p2), .val (.int p3), .val (.int p4), .val (.int p5), .val (.int p6), .val (.int (0 : Int32)), .val (.int v2), .val (.int v3), .val (.int v4), .unset, .unset, .unset, .unset] [(.int (p5 &&& (2147483647 : Int32)))]))
    generalize hv5 : (p5 &&& (2147483647 : Int32)) = v5
    refine g_istore X0 hx hby at_36 (pc' := 38) rfl (L' := #[.val (.int p1), .val (.int p2), .val (.int p3), .val (.int p4), .val (.int p5), .val (.int p6), .val (.int (0 : Int32)), .val (.int v2), .val (.int v3), .val (.int v4), .val (.int v5), .unset, .unset, .unset]) rfl ?_
    have hm : 0 ≤ v2.toInt ∧ v2.toInt ≤ 15 := by rw [← hv2]; have : (p2 &&& (15 : Int32)).toInt = p2.toInt % 16 := c_mask _ _ 4 (by decide) (by decide); have : -2147483648 ≤ (p2 &&& (15 : Int32)).toInt ∧ (p2 &&& (15 : Int32)).toInt < 2147483648 := rng32 _; have : -2147483648 ≤ p2.toInt ∧ p2.toInt < 2147483648 := rng32 _; omega
    obtain ⟨ks, hkle, hks⟩ : ∃ ks : Nat, ks ≤ 0 ∧ v3.toInt = (ks : Int) := ⟨v3.toInt.toNat, by rw [← hv3]; have : (0 ≤ (p3 &&& (2147483647 : Int32)).toInt → ((p3 &&& (2147483647 : Int32)) % (1 : Int32)).toInt = (p3 &&& (2147483647 : Int32)).toInt % 1) ∧ ((p3 &&& (2147483647 : Int32)).toInt < 0 → ((p3 &&& (2147483647 : Int32)) % (1 : Int32)).toInt = -((-(p3 &&& (2147483647 : Int32)).toInt) % 1)) := c_irem _ _ 1 rfl; have : -2147483648 ≤ ((p3 &&& (2147483647 : Int32)) % (1 : Int32)).toInt ∧ ((p3 &&& (2147483647 : Int32)) % (1 : Int32)).toInt < 2147483648 := rng32 _; have : (p3 &&& (2147483647 : Int32)).toInt = p3.toInt % 2147483648 := c_mask _ _ 31 (by decide) (by decide); have : -2147483648 ≤ (p3 &&& (2147483647 : Int32)).toInt ∧ (p3 &&& (2147483647 : Int32)).toInt < 2147483648 := rng32 _; have : -2147483648 ≤ p3.toInt ∧ p3.toInt < 2147483648 := rng32 _; omega, by rw [← hv3]; have : (0 ≤ (p3 &&& (2147483647 : Int32)).toInt → ((p3 &&& (2147483647 : Int32)) % (1 : Int32)).toInt = (p3 &&& (2147483647 : Int32)).toInt % 1) ∧ ((p3 &&& (2147483647 : Int32)).toInt < 0 → ((p3 &&& (2147483647 : Int32)) % (1 : Int32)).toInt = -((-(p3 &&& (2147483647 : Int32)).toInt) % 1)) := c_irem _ _ 1 rfl; have : -2147483648 ≤ ((p3 &&& (2147483647 : Int32)) % (1 : Int32)).toInt ∧ ((p3 &&& (2147483647 : Int32)) % (1 : Int32)).toInt < 2147483648 := rng32 _; have : (p3 &&& (2147483647 : Int32)).toInt = p3.toInt % 2147483648 := c_mask _ _ 31 (by decide) (by decide); have : -2147483648 ≤ (p3 &&& (2147483647 : Int32)).toInt ∧ (p3 &&& (2147483647 : Int32)).toInt < 2147483648 := rng32 _; have : -2147483648 ≤ p3.toInt ∧ p3.toInt < 2147483648 := rng32 _; omega⟩
    have hva : 0 ≤ v4.toInt := by rw [← hv4]; have : (p4 &&& (2147483647 : Int32)).toInt = p4.toInt % 2147483648 := c_mask _ _ 31 (by decide) (by decide); have : -2147483648 ≤ (p4 &&& (2147483647 : Int32)).toInt ∧ (p4 &&& (2147483647 : Int32)).toInt < 2147483648 := rng32 _; have : -2147483648 ≤ p4.toInt ∧ p4.toInt < 2147483648 := rng32 _; omega
    have hvb : 0 ≤ v5.toInt := by rw [← hv5]; have : (p5 &&& (2147483647 : Int32)).toInt = p5.toInt % 2147483648 := c_mask _ _ 31 (by decide) (by decide); have : -2147483648 ≤ (p5 &&& (2147483647 : Int32)).toInt ∧ (p5 &&& (2147483647 : Int32)).toInt < 2147483648 := rng32 _; have : -2147483648 ≤ p5.toInt ∧ p5.toInt < 2147483648 := rng32 _; omega
    refine Go.join (α := State × (List Loc) × Heap × Int32 × Addr × Addr × Addr) (P := fun x => (fun (Tj142 : State) (Lj142 : List Loc) (hj142 : Heap) (fl : Int32) (oa : Addr) (xa : Addr) (xb : Addr) => Stand p l e room_1 s m #[(.int p1), (.int p2), (.int p3), (.int p4), (.int p5), (.int p6)] below meth c Tj142 Lj142 14 35 ∧ Tj142.heap = hj142 ∧ Fr n0 Lj142 ∧ n0 ≤ hj142.size ∧ Exa Z hj142 oa "com/example/edgewise/edgewise/EdgeSlots" ∧ Fld Z hj142 oa "com/example/edgewise/edgewise/EdgeSlots" "sources" "[I" (.ref xa) ∧ Fld Z hj142 oa "com/example/edgewise/edgewise/EdgeSlots" "targets" "[I" (.ref xb) ∧ Fld Z hj142 oa "com/example/edgewise/edgewise/EdgeSlots" "bound" "I" (.int (0 : Int32)) ∧ Fld Z hj142 oa "com/example/edgewise/edgewise/EdgeSlots" "count" "I" (.int (0 : Int32)) ∧ ArF Z hj142 xa .int 0 (fun i => .int ((fun _ => (0 : Int32)) i)) ∧ ArF Z hj142 xb .int 0 (fun i => .int ((fun _ => (0 : Int32)) i)) ∧ (xa ≠ oa ∧ xb ≠ oa ∧ xa ≠ xb ∧ n0 ≤ oa ∧ n0 ≤ xa ∧ n0 ≤ xb)) x.1 x.2.1 x.2.2.1 x.2.2.2.1 x.2.2.2.2.1 x.2.2.2.2.2.1 x.2.2.2.2.2.2) (F := fun x => (fun (Tj142 : State) (Lj142 : List Loc) (hj142 : Heap) (fl : Int32) (oa : Addr) (xa : Addr) (xb : Addr) => Tj142.setTop (mkF m 142 #[.val (.int p1), .val (.int p2), .val (.int p3), .val (.int p4), .val (.int p5), .val (.int p6), .val (.int (0 : Int32)), .val (.int v2), .val (.int v3), .val (.int v4), .val (.int v5), .val (.int fl), .val (.ref oa), .unset] [])) x.1 x.2.1 x.2.2.1 x.2.2.2.1 x.2.2.2.2.1 x.2.2.2.2.2.1 x.2.2.2.2.2.2) ?_ ?_
    · rintro ⟨Tj142, Lj142, hj142, fl, oa, xa, xb⟩ hP142
      obtain ⟨Xj142, ej142, Nj142, zj142, fj142_0, fj142_1, fj142_2, fj142_3, fj142_4, fj142_5, fj142_6, hJ142⟩ : Stand p l e room_1 s m #[(.int p1), (.int p2), (.int p3), (.int p4), (.int p5), (.int p6)] below meth c Tj142 Lj142 14 35 ∧ Tj142.heap = hj142 ∧ Fr n0 Lj142 ∧ n0 ≤ hj142.size ∧ Exa Z hj142 oa "com/example/edgewise/edgewise/EdgeSlots" ∧ Fld Z hj142 oa "com/example/edgewise/edgewise/EdgeSlots" "sources" "[I" (.ref xa) ∧ Fld Z hj142 oa "com/example/edgewise/edgewise/EdgeSlots" "targets" "[I" (.ref xb) ∧ Fld Z hj142 oa "com/example/edgewise/edgewise/EdgeSlots" "bound" "I" (.int (0 : Int32)) ∧ Fld Z hj142 oa "com/example/edgewise/edgewise/EdgeSlots" "count" "I" (.int (0 : Int32)) ∧ ArF Z hj142 xa .int 0 (fun i => .int ((fun _ => (0 : Int32)) i)) ∧ ArF Z hj142 xb .int 0 (fun i => .int ((fun _ => (0 : Int32)) i)) ∧ (xa ≠ oa ∧ xb ≠ oa ∧ xa ≠ xb ∧ n0 ≤ oa ∧ n0 ≤ xa ∧ n0 ≤ xb) := hP142
      show Go p.tables e below s _ _ _ (Tj142.setTop (mkF m 142 #[.val (.int p1), .val (.int p2), .val (.int p3), .val (.int p4), .val (.int p5), .val (.int p6), .val (.int (0 : Int32)), .val (.int v2), .val (.int v3), .val (.int v4), .val (.int v5), .val (.int fl), .val (.ref oa), .unset] []))
      obtain ⟨ne1, ne2, ne3, ge1, ge2, ge3⟩ := hJ142
      refine g_iload Xj142 hx hby at_142 (pc' := 144) rfl rfl ?_
      have hc144 : ¬ ((0 : Int) < (0 : Int)) := by decide
      refine g_ifYes Xj142 hx hby at_144 (pc' := 160) (flt (show ¬ ((0 : Int32) < (0 : Int32)) from fun q => hc144 (Int32.lt_iff_toInt_lt.mp q))).2.2.2 (by decide) (by decide) ?_
      refine g_iload Xj142 hx hby at_160 (pc' := 162) rfl rfl ?_
      refine g_iconst Xj142 hx hby at_162 (pc' := 163) rfl (z := (1 : Int32)) rfl ?_
      have hc163 : ¬ ((1 : Int) < (0 : Int)) := by decide
      refine g_icmpYes Xj142 hx hby at_163 (pc' := 179) (flt (show ¬ ((1 : Int32) < (0 : Int32)) from fun q => hc163 (Int32.lt_iff_toInt_lt.mp q))).2.2.2 (by decide) (by decide) ?_
      refine g_iload Xj142 hx hby at_179 (pc' := 181) rfl rfl ?_
      refine g_iconst Xj142 hx hby at_181 (pc' := 182) rfl (z := (2 : Int32)) rfl ?_
      have hc182 : ¬ ((2 : Int) < (0 : Int)) := by decide
      refine g_icmpYes Xj142 hx hby at_182 (pc' := 198) (flt (show ¬ ((2 : Int32) < (0 : Int32)) from fun q => hc182 (Int32.lt_iff_toInt_lt.mp q))).2.2.2 (by decide) (by decide) ?_
      refine g_iload Xj142 hx hby at_198 (pc' := 200) rfl rfl ?_
      refine g_iconst Xj142 hx hby at_200 (pc' := 201) rfl (z := (3 : Int32)) rfl ?_
      have hc201 : ¬ ((3 : Int) < (0 : Int)) := by decide
      refine g_icmpYes Xj142 hx hby at_201 (pc' := 218) (flt (show ¬ ((3 : Int32) < (0 : Int32)) from fun q => hc201 (Int32.lt_iff_toInt_lt.mp q))).2.2.2 (by decide) (by decide) ?_
      refine g_iload Xj142 hx hby at_218 (pc' := 220) rfl rfl ?_
      refine g_istore Xj142 hx hby at_220 (pc' := 222) rfl (L' := #[.val (.int p1), .val (.int p2), .val (.int p3), .val (.int p4), .val (.int p5), .val (.int p6), .val (.int (0 : Int32)), .val (.int v2), .val (.int v3), .val (.int v4), .val (.int v5), .val (.int fl), .val (.ref oa), .val (.int (0 : Int32))]) rfl ?_
      refine Go.join (α := State × (List Loc) × Int32) (P := fun x => (fun (Tj242 : State) (Lj242 : List Loc) (ee3 : Int32) => Stand p l e room_1 s m #[(.int p1), (.int p2), (.int p3), (.int p4), (.int p5), (.int p6)] below meth c Tj242 Lj242 14 35 ∧ Tj242.heap = hj142 ∧ Fr n0 Lj242 ∧ (ee3 = own_ei 3 (3 : Int32) v3 (0 : Int32) v2 (0 : Int32))) x.1 x.2.1 x.2.2) (F := fun x => (fun (Tj242 : State) (Lj242 : List Loc) (ee3 : Int32) => Tj242.setTop (mkF m 242 #[.val (.int p1), .val (.int p2), .val (.int p3), .val (.int p4), .val (.int p5), .val (.int p6), .val (.int (0 : Int32)), .val (.int v2), .val (.int v3), .val (.int v4), .val (.int v5), .val (.int fl), .val (.ref oa), .val (.int ee3)] [])) x.1 x.2.1 x.2.2) ?_ ?_
      · rintro ⟨Tj242, Lj242, ee3⟩ hP242
        obtain ⟨Xj242, ej242, Nj242, hJ242⟩ : Stand p l e room_1 s m #[(.int p1), (.int p2), (.int p3), (.int p4), (.int p5), (.int p6)] below meth c Tj242 Lj242 14 35 ∧ Tj242.heap = hj142 ∧ Fr n0 Lj242 ∧ (ee3 = own_ei 3 (3 : Int32) v3 (0 : Int32) v2 (0 : Int32)) := hP242
        show Go p.tables e below s _ _ _ (Tj242.setTop (mkF m 242 #[.val (.int p1), .val (.int p2), .val (.int p3), .val (.int p4), .val (.int p5), .val (.int p6), .val (.int (0 : Int32)), .val (.int v2), .val (.int v3), .val (.int v4), .val (.int v5), .val (.int fl), .val (.ref oa), .val (.int ee3)] []))
        refine Go.join (α := State × (List Loc) × Int32) (P := fun x => (fun (Tj262 : State) (Lj262 : List Loc) (ee2 : Int32) => Stand p l e room_1 s m #[(.int p1), (.int p2), (.int p3), (.int p4), (.int p5), (.int p6)] below meth c Tj262 Lj262 14 35 ∧ Tj262.heap = hj142 ∧ Fr n0 Lj262 ∧ (ee2 = own_ei 2 (2 : Int32) v3 (0 : Int32) v2 ee3)) x.1 x.2.1 x.2.2) (F := fun x => (fun (Tj262 : State) (Lj262 : List Loc) (ee2 : Int32) => Tj262.setTop (mkF m 262 #[.val (.int p1), .val (.int p2), .val (.int p3), .val (.int p4), .val (.int p5), .val (.int p6), .val (.int (0 : Int32)), .val (.int v2), .val (.int v3), .val (.int v4), .val (.int v5), .val (.int fl), .val (.ref oa), .val (.int ee2)] [])) x.1 x.2.1 x.2.2) ?_ ?_
        · rintro ⟨Tj262, Lj262, ee2⟩ hP262
          obtain ⟨Xj262, ej262, Nj262, hJ262⟩ : Stand p l e room_1 s m #[(.int p1), (.int p2), (.int p3), (.int p4), (.int p5), (.int p6)] below meth c Tj262 Lj262 14 35 ∧ Tj262.heap = hj142 ∧ Fr n0 Lj262 ∧ (ee2 = own_ei 2 (2 : Int32) v3 (0 : Int32) v2 ee3) := hP262
          show Go p.tables e below s _ _ _ (Tj262.setTop (mkF m 262 #[.val (.int p1), .val (.int p2), .val (.int p3), .val (.int p4), .val (.int p5), .val (.int p6), .val (.int (0 : Int32)), .val (.int v2), .val (.int v3), .val (.int v4), .val (.int v5), .val (.int fl), .val (.ref oa), .val (.int ee2)] []))
          refine Go.join (α := State × (List Loc) × Int32) (P := fun x => (fun (Tj282 : State) (Lj282 : List Loc) (ee1 : Int32) => Stand p l e room_1 s m #[(.int p1), (.int p2), (.int p3), (.int p4), (.int p5), (.int p6)] below meth c Tj282 Lj282 14 35 ∧ Tj282.heap = hj142 ∧ Fr n0 Lj282 ∧ (ee1 = own_ei 1 (1 : Int32) v3 (0 : Int32) v2 ee2)) x.1 x.2.1 x.2.2) (F := fun x => (fun (Tj282 : State) (Lj282 : List Loc) (ee1 : Int32) => Tj282.setTop (mkF m 282 #[.val (.int p1), .val (.int p2), .val (.int p3), .val (.int p4), .val (.int p5), .val (.int p6), .val (.int (0 : Int32)), .val (.int v2), .val (.int v3), .val (.int v4), .val (.int v5), .val (.int fl), .val (.ref oa), .val (.int ee1)] [])) x.1 x.2.1 x.2.2) ?_ ?_
          · rintro ⟨Tj282, Lj282, ee1⟩ hP282
            obtain ⟨Xj282, ej282, Nj282, hJ282⟩ : Stand p l e room_1 s m #[(.int p1), (.int p2), (.int p3), (.int p4), (.int p5), (.int p6)] below meth c Tj282 Lj282 14 35 ∧ Tj282.heap = hj142 ∧ Fr n0 Lj282 ∧ (ee1 = own_ei 1 (1 : Int32) v3 (0 : Int32) v2 ee2) := hP282
            show Go p.tables e below s _ _ _ (Tj282.setTop (mkF m 282 #[.val (.int p1), .val (.int p2), .val (.int p3), .val (.int p4), .val (.int p5), .val (.int p6), .val (.int (0 : Int32)), .val (.int v2), .val (.int v3), .val (.int v4), .val (.int v5), .val (.int fl), .val (.ref oa), .val (.int ee1)] []))
            refine Go.join (α := State × (List Loc) × Int32) (P := fun x => (fun (Tj302 : State) (Lj302 : List Loc) (ee0 : Int32) => Stand p l e room_1 s m #[(.int p1), (.int p2), (.int p3), (.int p4), (.int p5), (.int p6)] below meth c Tj302 Lj302 14 35 ∧ Tj302.heap = hj142 ∧ Fr n0 Lj302 ∧ (ee0 = own_ei 0 (0 : Int32) v3 (0 : Int32) v2 ee1)) x.1 x.2.1 x.2.2) (F := fun x => (fun (Tj302 : State) (Lj302 : List Loc) (ee0 : Int32) => Tj302.setTop (mkF m 302 #[.val (.int p1), .val (.int p2), .val (.int p3), .val (.int p4), .val (.int p5), .val (.int p6), .val (.int (0 : Int32)), .val (.int v2), .val (.int v3), .val (.int v4), .val (.int v5), .val (.int fl), .val (.ref oa), .val (.int ee0)] [])) x.1 x.2.1 x.2.2) ?_ ?_
            · rintro ⟨Tj302, Lj302, ee0⟩ hP302
              obtain ⟨Xj302, ej302, Nj302, hJ302⟩ : Stand p l e room_1 s m #[(.int p1), (.int p2), (.int p3), (.int p4), (.int p5), (.int p6)] below meth c Tj302 Lj302 14 35 ∧ Tj302.heap = hj142 ∧ Fr n0 Lj302 ∧ (ee0 = own_ei 0 (0 : Int32) v3 (0 : Int32) v2 ee1) := hP302
              show Go p.tables e below s _ _ _ (Tj302.setTop (mkF m 302 #[.val (.int p1), .val (.int p2), .val (.int p3), .val (.int p4), .val (.int p5), .val (.int p6), .val (.int (0 : Int32)), .val (.int v2), .val (.int v3), .val (.int v4), .val (.int v5), .val (.int fl), .val (.ref oa), .val (.int ee0)] []))
              refine g_aload Xj302 hx hby at_302 (pc' := 304) rfl rfl rfl ?_
              refine g_iload Xj302 hx hby at_304 (pc' := 306) rfl rfl ?_
              refine Go.callV Xj302 hx hZ (y := (⟨"com/example/edgewise/edgewise/EdgeSlots", "nextLive", "(I)I"⟩ : MethodName)) (z := (⟨"com/example/edgewise/edgewise/EdgeSlots", "nextLive", "(I)I"⟩ : MethodName)) hown (wi hw 33 rfl) (wi hw 34 rfl) (notFace_of_selects (args := #[]) (mvT hZ (wi hw 36 rfl))) (wi hw 36 rfl) (wi hw 35 rfl) (wi hw 3 rfl) (wi hw 37 rfl) (by decide) ej302 (a := oa) (argsL := [(.int v3)]) (rest := []) (W := 0) fj142_0 (rm_nl l Z a0 hw oa v3 xa 0 (fun _ => (0 : Int32)) (0 : Int32) 0 ks hj142 n0 zj142 fj142_3 fj142_1 fj142_5 rfl hks (by decide) hkle) (hb hby at_306) (by rw [hml]; rfl) rfl pd_aIzI rfl rfl (by decide) (by decide) (by decide) (by decide) ?_
              intro v6 T6 L6 X6 hQ6
              obtain ⟨rfl, Nq6, hh6⟩ := hQ6
              have N6 := Fr.app Nj302 Nq6
              show Go p.tables e below s _ _ _ (T6.setTop (mkF m 309 #[.val (.int p1), .val (.int p2), .val (.int p3), .val (.int p4), .val (.int p5), .val (.int p6), .val (.int (0 : Int32)), .val (.int v2), .val (.int v3), .val (.int v4), .val (.int v5), .val (.int fl), .val (.ref oa), .val (.int ee0)] [(.int (own_nl (fun _ => (0 : Int32)) (0 - ks) ks))]))
              have hfin : (own_nl (fun _ => (0 : Int32)) (0 - ks) ks) = ee0 := by
                rw [hJ302, hJ282, hJ262, hJ242]
                exact own_fin0 _ v2 v3 ks hm hks hkle 
              rw [hfin]
              show Go p.tables e below s _ _ _ (T6.setTop (mkF m 309 #[.val (.int p1), .val (.int p2), .val (.int p3), .val (.int p4), .val (.int p5), .val (.int p6), .val (.int (0 : Int32)), .val (.int v2), .val (.int v3), .val (.int v4), .val (.int v5), .val (.int fl), .val (.ref oa), .val (.int ee0)] [(.int ee0)]))
              refine g_iload X6 hx hby at_309 (pc' := 311) rfl rfl ?_
              have hc311 : ee0.toInt = ee0.toInt := rfl
              refine g_icmpNo X6 hx hby at_311 (pc' := 314) (teq (show ee0 = ee0 from Int32.toInt_inj.mp hc311)).2 rfl ?_
              refine g_iconst X6 hx hby at_314 (pc' := 315) rfl (z := (1 : Int32)) rfl ?_
              refine g_goto X6 hx hby at_315 (pc' := 319) (by decide) (by decide) ?_
              refine Go.retZ X6 hx hlk hret (by simp) (hb hby at_319) (by decide) (by decide) ?_
              exact ⟨rfl, N6⟩
            intro J302
            refine g_iconst Xj282 hx hby at_282 (pc' := 283) rfl (z := (0 : Int32)) rfl ?_
            refine g_iload Xj282 hx hby at_283 (pc' := 285) rfl rfl ?_
            by_cases hc285 : (0 : Int) < v3.toInt
            · refine g_icmpYes Xj282 hx hby at_285 (pc' := 302) (tlt (show (0 : Int32) < v3 from Int32.lt_iff_toInt_lt.mpr hc285)).1 (by decide) (by decide) ?_
              exact J302 (Tj282, _, ee1) ⟨Xj282.more (by decide) (by decide), ej282, Nj282, (show ee1 = own_ei 0 (0 : Int32) v3 (0 : Int32) v2 ee1 from (by unfold own_ei; first | (exfalso; omega) | (rw [if_pos (by omega)]) | (rw [if_neg (by omega)])))⟩
            · refine g_icmpNo Xj282 hx hby at_285 (pc' := 288) (flt (show ¬ ((0 : Int32) < v3) from fun q => hc285 (Int32.lt_iff_toInt_lt.mp q))).1 rfl ?_
              refine g_iconst Xj282 hx hby at_288 (pc' := 289) rfl (z := (0 : Int32)) rfl ?_
              refine g_iload Xj282 hx hby at_289 (pc' := 291) rfl rfl ?_
              refine g_iload Xj282 hx hby at_291 (pc' := 293) rfl rfl ?_
              refine Go.callS Xj282 hx hZ (y := (⟨"com/example/edgewise/edgewise/EdgeSlotsNextLivePinLaw", "live", "(III)Z"⟩ : MethodName)) hown (wi hw 29 rfl) (wi hw 30 rfl) (wi hw 31 rfl) (wi hw 32 rfl) (by decide) ej282 (argsL := [(.int (0 : Int32)), (.int (0 : Int32)), (.int v2)]) (rest := []) (W := 0) (rm_live l Z a0 hw (0 : Int32) (0 : Int32) v2 hj142 n0 zj142 ) (hb hby at_293) (by rw [hml]; rfl) rfl pd_aIIIzZ rfl rfl (by decide) (by decide) (by decide) (by decide) ?_
              intro v7 T7 L7 X7 hQ7
              obtain ⟨rfl, Nq7, hh7⟩ := hQ7
              have N7 := Fr.app Nj282 Nq7
              show Go p.tables e below s _ _ _ (T7.setTop (mkF m 296 #[.val (.int p1), .val (.int p2), .val (.int p3), .val (.int p4), .val (.int p5), .val (.int p6), .val (.int (0 : Int32)), .val (.int v2), .val (.int v3), .val (.int v4), .val (.int v5), .val (.int fl), .val (.ref oa), .val (.int ee1)] [(.int (own_live (0 : Int32) (0 : Int32) v2))]))
              by_cases hc296 : (own_live (0 : Int32) (0 : Int32) v2).toInt = (0 : Int)
              · refine g_ifYes X7 hx hby at_296 (pc' := 302) (teq (show (own_live (0 : Int32) (0 : Int32) v2) = (0 : Int32) from Int32.toInt_inj.mp hc296)).1 (by decide) (by decide) ?_
                exact J302 (T7, _, ee1) ⟨X7.more (by decide) (by decide), hh7, N7, (show ee1 = own_ei 0 (0 : Int32) v3 (0 : Int32) v2 ee1 from (by unfold own_ei; first | (exfalso; omega) | (rw [if_pos (by omega)]) | (rw [if_neg (by omega)])))⟩
              · refine g_ifNo X7 hx hby at_296 (pc' := 299) (feq (show ¬ ((own_live (0 : Int32) (0 : Int32) v2) = (0 : Int32)) from fun q => hc296 (congrArg Int32.toInt q))).1 rfl ?_
                refine g_iconst X7 hx hby at_299 (pc' := 300) rfl (z := (0 : Int32)) rfl ?_
                refine g_istore X7 hx hby at_300 (pc' := 302) rfl (L' := #[.val (.int p1), .val (.int p2), .val (.int p3), .val (.int p4), .val (.int p5), .val (.int p6), .val (.int (0 : Int32)), .val (.int v2), .val (.int v3), .val (.int v4), .val (.int v5), .val (.int fl), .val (.ref oa), .val (.int (0 : Int32))]) rfl ?_
                exact J302 (T7, _, (0 : Int32)) ⟨X7.more (by decide) (by decide), hh7, N7, (show (0 : Int32) = own_ei 0 (0 : Int32) v3 (0 : Int32) v2 ee1 from (by unfold own_ei; first | (exfalso; omega) | (rw [if_pos (by omega)]) | (rw [if_neg (by omega)])))⟩
          intro J282
          refine g_iconst Xj262 hx hby at_262 (pc' := 263) rfl (z := (1 : Int32)) rfl ?_
          refine g_iload Xj262 hx hby at_263 (pc' := 265) rfl rfl ?_
          by_cases hc265 : (1 : Int) < v3.toInt
          · refine g_icmpYes Xj262 hx hby at_265 (pc' := 282) (tlt (show (1 : Int32) < v3 from Int32.lt_iff_toInt_lt.mpr hc265)).1 (by decide) (by decide) ?_
            exact J282 (Tj262, _, ee2) ⟨Xj262.more (by decide) (by decide), ej262, Nj262, (show ee2 = own_ei 1 (1 : Int32) v3 (0 : Int32) v2 ee2 from (by unfold own_ei; first | (exfalso; omega) | (rw [if_pos (by omega)]) | (rw [if_neg (by omega)])))⟩
          · refine g_icmpNo Xj262 hx hby at_265 (pc' := 268) (flt (show ¬ ((1 : Int32) < v3) from fun q => hc265 (Int32.lt_iff_toInt_lt.mp q))).1 rfl ?_
            refine g_iconst Xj262 hx hby at_268 (pc' := 269) rfl (z := (1 : Int32)) rfl ?_
            refine g_iload Xj262 hx hby at_269 (pc' := 271) rfl rfl ?_
            refine g_iload Xj262 hx hby at_271 (pc' := 273) rfl rfl ?_
            refine Go.callS Xj262 hx hZ (y := (⟨"com/example/edgewise/edgewise/EdgeSlotsNextLivePinLaw", "live", "(III)Z"⟩ : MethodName)) hown (wi hw 29 rfl) (wi hw 30 rfl) (wi hw 31 rfl) (wi hw 32 rfl) (by decide) ej262 (argsL := [(.int (1 : Int32)), (.int (0 : Int32)), (.int v2)]) (rest := []) (W := 0) (rm_live l Z a0 hw (1 : Int32) (0 : Int32) v2 hj142 n0 zj142 ) (hb hby at_273) (by rw [hml]; rfl) rfl pd_aIIIzZ rfl rfl (by decide) (by decide) (by decide) (by decide) ?_
            intro v8 T8 L8 X8 hQ8
            obtain ⟨rfl, Nq8, hh8⟩ := hQ8
            have N8 := Fr.app Nj262 Nq8
            show Go p.tables e below s _ _ _ (T8.setTop (mkF m 276 #[.val (.int p1), .val (.int p2), .val (.int p3), .val (.int p4), .val (.int p5), .val (.int p6), .val (.int (0 : Int32)), .val (.int v2), .val (.int v3), .val (.int v4), .val (.int v5), .val (.int fl), .val (.ref oa), .val (.int ee2)] [(.int (own_live (1 : Int32) (0 : Int32) v2))]))
            by_cases hc276 : (own_live (1 : Int32) (0 : Int32) v2).toInt = (0 : Int)
            · refine g_ifYes X8 hx hby at_276 (pc' := 282) (teq (show (own_live (1 : Int32) (0 : Int32) v2) = (0 : Int32) from Int32.toInt_inj.mp hc276)).1 (by decide) (by decide) ?_
              exact J282 (T8, _, ee2) ⟨X8.more (by decide) (by decide), hh8, N8, (show ee2 = own_ei 1 (1 : Int32) v3 (0 : Int32) v2 ee2 from (by unfold own_ei; first | (exfalso; omega) | (rw [if_pos (by omega)]) | (rw [if_neg (by omega)])))⟩
            · refine g_ifNo X8 hx hby at_276 (pc' := 279) (feq (show ¬ ((own_live (1 : Int32) (0 : Int32) v2) = (0 : Int32)) from fun q => hc276 (congrArg Int32.toInt q))).1 rfl ?_
              refine g_iconst X8 hx hby at_279 (pc' := 280) rfl (z := (1 : Int32)) rfl ?_
              refine g_istore X8 hx hby at_280 (pc' := 282) rfl (L' := #[.val (.int p1), .val (.int p2), .val (.int p3), .val (.int p4), .val (.int p5), .val (.int p6), .val (.int (0 : Int32)), .val (.int v2), .val (.int v3), .val (.int v4), .val (.int v5), .val (.int fl), .val (.ref oa), .val (.int (1 : Int32))]) rfl ?_
              exact J282 (T8, _, (1 : Int32)) ⟨X8.more (by decide) (by decide), hh8, N8, (show (1 : Int32) = own_ei 1 (1 : Int32) v3 (0 : Int32) v2 ee2 from (by unfold own_ei; first | (exfalso; omega) | (rw [if_pos (by omega)]) | (rw [if_neg (by omega)])))⟩
        intro J262
        refine g_iconst Xj242 hx hby at_242 (pc' := 243) rfl (z := (2 : Int32)) rfl ?_
        refine g_iload Xj242 hx hby at_243 (pc' := 245) rfl rfl ?_
        by_cases hc245 : (2 : Int) < v3.toInt
        · refine g_icmpYes Xj242 hx hby at_245 (pc' := 262) (tlt (show (2 : Int32) < v3 from Int32.lt_iff_toInt_lt.mpr hc245)).1 (by decide) (by decide) ?_
          exact J262 (Tj242, _, ee3) ⟨Xj242.more (by decide) (by decide), ej242, Nj242, (show ee3 = own_ei 2 (2 : Int32) v3 (0 : Int32) v2 ee3 from (by unfold own_ei; first | (exfalso; omega) | (rw [if_pos (by omega)]) | (rw [if_neg (by omega)])))⟩
        · refine g_icmpNo Xj242 hx hby at_245 (pc' := 248) (flt (show ¬ ((2 : Int32) < v3) from fun q => hc245 (Int32.lt_iff_toInt_lt.mp q))).1 rfl ?_
          refine g_iconst Xj242 hx hby at_248 (pc' := 249) rfl (z := (2 : Int32)) rfl ?_
          refine g_iload Xj242 hx hby at_249 (pc' := 251) rfl rfl ?_
          refine g_iload Xj242 hx hby at_251 (pc' := 253) rfl rfl ?_
          refine Go.callS Xj242 hx hZ (y := (⟨"com/example/edgewise/edgewise/EdgeSlotsNextLivePinLaw", "live", "(III)Z"⟩ : MethodName)) hown (wi hw 29 rfl) (wi hw 30 rfl) (wi hw 31 rfl) (wi hw 32 rfl) (by decide) ej242 (argsL := [(.int (2 : Int32)), (.int (0 : Int32)), (.int v2)]) (rest := []) (W := 0) (rm_live l Z a0 hw (2 : Int32) (0 : Int32) v2 hj142 n0 zj142 ) (hb hby at_253) (by rw [hml]; rfl) rfl pd_aIIIzZ rfl rfl (by decide) (by decide) (by decide) (by decide) ?_
          intro v9 T9 L9 X9 hQ9
          obtain ⟨rfl, Nq9, hh9⟩ := hQ9
          have N9 := Fr.app Nj242 Nq9
          show Go p.tables e below s _ _ _ (T9.setTop (mkF m 256 #[.val (.int p1), .val (.int p2), .val (.int p3), .val (.int p4), .val (.int p5), .val (.int p6), .val (.int (0 : Int32)), .val (.int v2), .val (.int v3), .val (.int v4), .val (.int v5), .val (.int fl), .val (.ref oa), .val (.int ee3)] [(.int (own_live (2 : Int32) (0 : Int32) v2))]))
          by_cases hc256 : (own_live (2 : Int32) (0 : Int32) v2).toInt = (0 : Int)
          · refine g_ifYes X9 hx hby at_256 (pc' := 262) (teq (show (own_live (2 : Int32) (0 : Int32) v2) = (0 : Int32) from Int32.toInt_inj.mp hc256)).1 (by decide) (by decide) ?_
            exact J262 (T9, _, ee3) ⟨X9.more (by decide) (by decide), hh9, N9, (show ee3 = own_ei 2 (2 : Int32) v3 (0 : Int32) v2 ee3 from (by unfold own_ei; first | (exfalso; omega) | (rw [if_pos (by omega)]) | (rw [if_neg (by omega)])))⟩
          · refine g_ifNo X9 hx hby at_256 (pc' := 259) (feq (show ¬ ((own_live (2 : Int32) (0 : Int32) v2) = (0 : Int32)) from fun q => hc256 (congrArg Int32.toInt q))).1 rfl ?_
            refine g_iconst X9 hx hby at_259 (pc' := 260) rfl (z := (2 : Int32)) rfl ?_
            refine g_istore X9 hx hby at_260 (pc' := 262) rfl (L' := #[.val (.int p1), .val (.int p2), .val (.int p3), .val (.int p4), .val (.int p5), .val (.int p6), .val (.int (0 : Int32)), .val (.int v2), .val (.int v3), .val (.int v4), .val (.int v5), .val (.int fl), .val (.ref oa), .val (.int (2 : Int32))]) rfl ?_
            exact J262 (T9, _, (2 : Int32)) ⟨X9.more (by decide) (by decide), hh9, N9, (show (2 : Int32) = own_ei 2 (2 : Int32) v3 (0 : Int32) v2 ee3 from (by unfold own_ei; first | (exfalso; omega) | (rw [if_pos (by omega)]) | (rw [if_neg (by omega)])))⟩
      intro J242
      refine g_iconst Xj142 hx hby at_222 (pc' := 223) rfl (z := (3 : Int32)) rfl ?_
      refine g_iload Xj142 hx hby at_223 (pc' := 225) rfl rfl ?_
      by_cases hc225 : (3 : Int) < v3.toInt
      · refine g_icmpYes Xj142 hx hby at_225 (pc' := 242) (tlt (show (3 : Int32) < v3 from Int32.lt_iff_toInt_lt.mpr hc225)).1 (by decide) (by decide) ?_
        exact J242 (Tj142, _, (0 : Int32)) ⟨Xj142.more (by decide) (by decide), ej142, Nj142, (show (0 : Int32) = own_ei 3 (3 : Int32) v3 (0 : Int32) v2 (0 : Int32) from (by unfold own_ei; first | (exfalso; omega) | (rw [if_pos (by omega)]) | (rw [if_neg (by omega)])))⟩
      · refine g_icmpNo Xj142 hx hby at_225 (pc' := 228) (flt (show ¬ ((3 : Int32) < v3) from fun q => hc225 (Int32.lt_iff_toInt_lt.mp q))).1 rfl ?_
        refine g_iconst Xj142 hx hby at_228 (pc' := 229) rfl (z := (3 : Int32)) rfl ?_
        refine g_iload Xj142 hx hby at_229 (pc' := 231) rfl rfl ?_
        refine g_iload Xj142 hx hby at_231 (pc' := 233) rfl rfl ?_
        refine Go.callS Xj142 hx hZ (y := (⟨"com/example/edgewise/edgewise/EdgeSlotsNextLivePinLaw", "live", "(III)Z"⟩ : MethodName)) hown (wi hw 29 rfl) (wi hw 30 rfl) (wi hw 31 rfl) (wi hw 32 rfl) (by decide) ej142 (argsL := [(.int (3 : Int32)), (.int (0 : Int32)), (.int v2)]) (rest := []) (W := 0) (rm_live l Z a0 hw (3 : Int32) (0 : Int32) v2 hj142 n0 zj142 ) (hb hby at_233) (by rw [hml]; rfl) rfl pd_aIIIzZ rfl rfl (by decide) (by decide) (by decide) (by decide) ?_
        intro v10 T10 L10 X10 hQ10
        obtain ⟨rfl, Nq10, hh10⟩ := hQ10
        have N10 := Fr.app Nj142 Nq10
        show Go p.tables e below s _ _ _ (T10.setTop (mkF m 236 #[.val (.int p1), .val (.int p2), .val (.int p3), .val (.int p4), .val (.int p5), .val (.int p6), .val (.int (0 : Int32)), .val (.int v2), .val (.int v3), .val (.int v4), .val (.int v5), .val (.int fl), .val (.ref oa), .val (.int (0 : Int32))] [(.int (own_live (3 : Int32) (0 : Int32) v2))]))
        by_cases hc236 : (own_live (3 : Int32) (0 : Int32) v2).toInt = (0 : Int)
        · refine g_ifYes X10 hx hby at_236 (pc' := 242) (teq (show (own_live (3 : Int32) (0 : Int32) v2) = (0 : Int32) from Int32.toInt_inj.mp hc236)).1 (by decide) (by decide) ?_
          exact J242 (T10, _, (0 : Int32)) ⟨X10.more (by decide) (by decide), hh10, N10, (show (0 : Int32) = own_ei 3 (3 : Int32) v3 (0 : Int32) v2 (0 : Int32) from (by unfold own_ei; first | (exfalso; omega) | (rw [if_pos (by omega)]) | (rw [if_neg (by omega)])))⟩
        · refine g_ifNo X10 hx hby at_236 (pc' := 239) (feq (show ¬ ((own_live (3 : Int32) (0 : Int32) v2) = (0 : Int32)) from fun q => hc236 (congrArg Int32.toInt q))).1 rfl ?_
          refine g_iconst X10 hx hby at_239 (pc' := 240) rfl (z := (3 : Int32)) rfl ?_
          refine g_istore X10 hx hby at_240 (pc' := 242) rfl (L' := #[.val (.int p1), .val (.int p2), .val (.int p3), .val (.int p4), .val (.int p5), .val (.int p6), .val (.int (0 : Int32)), .val (.int v2), .val (.int v3), .val (.int v4), .val (.int v5), .val (.int fl), .val (.ref oa), .val (.int (3 : Int32))]) rfl ?_
          exact J242 (T10, _, (3 : Int32)) ⟨X10.more (by decide) (by decide), hh10, N10, (show (3 : Int32) = own_ei 3 (3 : Int32) v3 (0 : Int32) v2 (0 : Int32) from (by unfold own_ei; first | (exfalso; omega) | (rw [if_pos (by omega)]) | (rw [if_neg (by omega)])))⟩
    intro J142
    refine g_iload X0 hx hby at_38 (pc' := 40) rfl rfl ?_
    refine g_iconst X0 hx hby at_40 (pc' := 41) rfl (z := (1 : Int32)) rfl ?_
    refine g_iand X0 hx hby at_41 (pc' := 42) rfl rfl ?_
    by_cases hc42 : (p6 &&& (1 : Int32)).toInt = (0 : Int)
    · refine g_ifYes X0 hx hby at_42 (pc' := 49) (teq (show (p6 &&& (1 : Int32)) = (0 : Int32) from Int32.toInt_inj.mp hc42)).1 (by decide) (by decide) ?_
      refine g_iconst X0 hx hby at_49 (pc' := 50) rfl (z := (0 : Int32)) rfl ?_
      refine g_istore X0 hx hby at_50 (pc' := 52) rfl (L' := #[.val (.int p1), .val (.int p2), .val (.int p3), .val (.int p4), .val (.int p5), .val (.int p6), .val (.int (0 : Int32)), .val (.int v2), .val (.int v3), .val (.int v4), .val (.int v5), .val (.int (0 : Int32)), .unset, .unset]) rfl ?_
      have hk0 : True := trivial
      refine g_new X0 hx hby hZ hown (wi hw 1 rfl) (wi hw 2 rfl) (wi hw 3 rfl) e0 at_52 (pc' := 55) rfl (by decide) (by decide) ?_
      intro T11 h11 b11 X11 e11 E11 hb11 A11 D11
      have g12 : n0 ≤ b11 := by rw [hb11]; exact Z0
      have F13 : Fld Z h11 b11 "com/example/edgewise/edgewise/EdgeSlots" "sources" "[I" .null := D11 (Or.inl (wi hw 12 rfl)) (ty := (.array .int)) (by decide)
      have F14 : Fld Z h11 b11 "com/example/edgewise/edgewise/EdgeSlots" "targets" "[I" .null := D11 (Or.inl (wi hw 14 rfl)) (ty := (.array .int)) (by decide)
      have F15 : Fld Z h11 b11 "com/example/edgewise/edgewise/EdgeSlots" "sourcePositions" "[I" .null := D11 (Or.inl (wi hw 16 rfl)) (ty := (.array .int)) (by decide)
      have F16 : Fld Z h11 b11 "com/example/edgewise/edgewise/EdgeSlots" "targetPositions" "[I" .null := D11 (Or.inl (wi hw 18 rfl)) (ty := (.array .int)) (by decide)
      have F17 : Fld Z h11 b11 "com/example/edgewise/edgewise/EdgeSlots" "weights" "[D" .null := D11 (Or.inl (wi hw 21 rfl)) (ty := (.array .double)) (by decide)
      have F18 : Fld Z h11 b11 "com/example/edgewise/edgewise/EdgeSlots" "keys" "[I" .null := D11 (Or.inl (wi hw 23 rfl)) (ty := (.array .int)) (by decide)
      have F19 : Fld Z h11 b11 "com/example/edgewise/edgewise/EdgeSlots" "keptNumbers" "[J" .null := D11 (Or.inl (wi hw 26 rfl)) (ty := (.array .long)) (by decide)
      have F20 : Fld Z h11 b11 "com/example/edgewise/edgewise/EdgeSlots" "keyed" "Z" (.int (0 : Int32)) := D11 (Or.inr (wi hw 28 rfl)) (ty := .boolean) (by decide)
      have F21 : Fld Z h11 b11 "com/example/edgewise/edgewise/EdgeSlots" "bound" "I" (.int (0 : Int32)) := D11 (Or.inl (wi hw 39 rfl)) (ty := .int) (by decide)
      have F22 : Fld Z h11 b11 "com/example/edgewise/edgewise/EdgeSlots" "count" "I" (.int (0 : Int32)) := D11 (Or.inl (wi hw 79 rfl)) (ty := .int) (by decide)
      have F23 : Fld Z h11 b11 "com/example/edgewise/edgewise/EdgeSlots" "nextNumber" "J" (.long (0 : Int64)) := D11 (Or.inl (wi hw 81 rfl)) (ty := .long) (by decide)
      refine g_dup X11 hx hby at_55 (pc' := 56) rfl rfl ?_
      refine g_iload X11 hx hby at_56 (pc' := 58) rfl rfl ?_
      refine Go.callI X11 hx hZ (y := (⟨"com/example/edgewise/edgewise/EdgeSlots", "<init>", "(Z)V"⟩ : MethodName)) hown rfl (wi hw 4 rfl) (wi hw 5 rfl) (wi hw 3 rfl) (wi hw 6 rfl) (by decide) e11 (a := b11) (argsL := [(.int (0 : Int32))]) (rest := [(.ref b11)]) (W := 1) (rm_init0 l Z a0 hw b11 h11 n0 (Nat.le_trans Z0 E11.1) A11 F13 F14 F15 F16 F17 F18 F19 F20 F21 F22 F23 g12) (hb hby at_58) (by rw [hml]; rfl) rfl pd_aZzV rfl rfl (by decide) (by decide) (by decide) (by decide) ?_
      intro v24 T24 L24 X24 hQ24
      obtain ⟨h24, e24⟩ : ∃ z, T24.heap = z := ⟨_, rfl⟩
      rw [e24] at hQ24
      obtain ⟨b1_24, b2_24, b3_24, b4_24, b5_24, b6_24, b7_24, rfl, Nq24, Kq24, gqb1_24, sqb1_24, gqb2_24, sqb2_24, gqb3_24, sqb3_24, gqb4_24, sqb4_24, gqb5_24, sqb5_24, gqb6_24, sqb6_24, gqb7_24, sqb7_24, nqb1_b2_24, nqb1_b3_24, nqb1_b4_24, nqb1_b5_24, nqb1_b6_24, nqb1_b7_24, nqb2_b3_24, nqb2_b4_24, nqb2_b5_24, nqb2_b6_24, nqb2_b7_24, nqb3_b4_24, nqb3_b5_24, nqb3_b6_24, nqb3_b7_24, nqb4_b5_24, nqb4_b6_24, nqb4_b7_24, nqb5_b6_24, nqb5_b7_24, nqb6_b7_24, Fq0_24, Fq1_24, Fq2_24, Fq3_24, Fq4_24, Fq5_24, Fq6_24, Fq7_24, Fq8_24, Fq9_24, Fq10_24, Fq11_24, Fq12_24, Fq13_24, Fq14_24, Fq15_24, Fq16_24, Fq17_24⟩ := hQ24
      have N24 := Fr.app N0 Nq24
      show Go p.tables e below s _ _ _ (T24.setTop (mkF m 61 #[.val (.int p1), .val (.int p2), .val (.int p3), .val (.int p4), .val (.int p5), .val (.int p6), .val (.int (0 : Int32)), .val (.int v2), .val (.int v3), .val (.int v4), .val (.int v5), .val (.int (0 : Int32)), .unset, .unset] [(.ref b11)]))
      refine g_astore X24 hx hby at_61 (pc' := 63) rfl rfl (L' := #[.val (.int p1), .val (.int p2), .val (.int p3), .val (.int p4), .val (.int p5), .val (.int p6), .val (.int (0 : Int32)), .val (.int v2), .val (.int v3), .val (.int v4), .val (.int v5), .val (.int (0 : Int32)), .val (.ref b11), .unset]) rfl ?_
      refine g_iload X24 hx hby at_63 (pc' := 65) rfl rfl ?_
      have hc65 : ¬ ((0 : Int) < (0 : Int)) := by decide
      refine g_ifYes X24 hx hby at_65 (pc' := 81) (flt (show ¬ ((0 : Int32) < (0 : Int32)) from fun q => hc65 (Int32.lt_iff_toInt_lt.mp q))).2.2.2 (by decide) (by decide) ?_
      refine g_iload X24 hx hby at_81 (pc' := 83) rfl rfl ?_
      refine g_iconst X24 hx hby at_83 (pc' := 84) rfl (z := (1 : Int32)) rfl ?_
      have hc84 : ¬ ((1 : Int) < (0 : Int)) := by decide
      refine g_icmpYes X24 hx hby at_84 (pc' := 102) (flt (show ¬ ((1 : Int32) < (0 : Int32)) from fun q => hc84 (Int32.lt_iff_toInt_lt.mp q))).2.2.2 (by decide) (by decide) ?_
      refine g_iload X24 hx hby at_102 (pc' := 104) rfl rfl ?_
      refine g_iconst X24 hx hby at_104 (pc' := 105) rfl (z := (2 : Int32)) rfl ?_
      have hc105 : ¬ ((2 : Int) < (0 : Int)) := by decide
      refine g_icmpYes X24 hx hby at_105 (pc' := 122) (flt (show ¬ ((2 : Int32) < (0 : Int32)) from fun q => hc105 (Int32.lt_iff_toInt_lt.mp q))).2.2.2 (by decide) (by decide) ?_
      refine g_iload X24 hx hby at_122 (pc' := 124) rfl rfl ?_
      refine g_iconst X24 hx hby at_124 (pc' := 125) rfl (z := (3 : Int32)) rfl ?_
      have hc125 : ¬ ((3 : Int) < (0 : Int)) := by decide
      refine g_icmpYes X24 hx hby at_125 (pc' := 142) (flt (show ¬ ((3 : Int32) < (0 : Int32)) from fun q => hc125 (Int32.lt_iff_toInt_lt.mp q))).2.2.2 (by decide) (by decide) ?_
      have ne25 : b11 ≠ b1_24 := Nat.ne_of_lt (Nat.lt_of_lt_of_le F23.lt sqb1_24)
      have ne26 : b11 ≠ b2_24 := Nat.ne_of_lt (Nat.lt_of_lt_of_le F23.lt sqb2_24)
      have f27 := A11.keep Kq24
      exact J142 (T24, _, h24, (0 : Int32), b11, b1_24, b2_24) ⟨X24.more (by decide) (by decide), e24, N24, (Nat.le_trans (Nat.le_trans Z0 E11.1) Kq24.1), f27, Fq0_24, Fq1_24, Fq8_24, Fq9_24, Fq11_24, Fq12_24, (show b1_24 ≠ b11 ∧ b2_24 ≠ b11 ∧ b1_24 ≠ b2_24 ∧ n0 ≤ b11 ∧ n0 ≤ b1_24 ∧ n0 ≤ b2_24 from ⟨(Ne.symm ne25), (Ne.symm ne26), nqb1_b2_24, g12, gqb1_24, gqb2_24⟩)⟩
    · refine g_ifNo X0 hx hby at_42 (pc' := 45) (feq (show ¬ ((p6 &&& (1 : Int32)) = (0 : Int32)) from fun q => hc42 (congrArg Int32.toInt q))).1 rfl ?_
      refine g_iconst X0 hx hby at_45 (pc' := 46) rfl (z := (1 : Int32)) rfl ?_
      refine g_goto X0 hx hby at_46 (pc' := 50) (by decide) (by decide) ?_
      refine g_istore X0 hx hby at_50 (pc' := 52) rfl (L' := #[.val (.int p1), .val (.int p2), .val (.int p3), .val (.int p4), .val (.int p5), .val (.int p6), .val (.int (0 : Int32)), .val (.int v2), .val (.int v3), .val (.int v4), .val (.int v5), .val (.int (1 : Int32)), .unset, .unset]) rfl ?_
      have hk0 : True := trivial
      refine g_new X0 hx hby hZ hown (wi hw 1 rfl) (wi hw 2 rfl) (wi hw 3 rfl) e0 at_52 (pc' := 55) rfl (by decide) (by decide) ?_
      intro T28 h28 b28 X28 e28 E28 hb28 A28 D28
      have g29 : n0 ≤ b28 := by rw [hb28]; exact Z0
      have F30 : Fld Z h28 b28 "com/example/edgewise/edgewise/EdgeSlots" "sources" "[I" .null := D28 (Or.inl (wi hw 12 rfl)) (ty := (.array .int)) (by decide)
      have F31 : Fld Z h28 b28 "com/example/edgewise/edgewise/EdgeSlots" "targets" "[I" .null := D28 (Or.inl (wi hw 14 rfl)) (ty := (.array .int)) (by decide)
      have F32 : Fld Z h28 b28 "com/example/edgewise/edgewise/EdgeSlots" "sourcePositions" "[I" .null := D28 (Or.inl (wi hw 16 rfl)) (ty := (.array .int)) (by decide)
      have F33 : Fld Z h28 b28 "com/example/edgewise/edgewise/EdgeSlots" "targetPositions" "[I" .null := D28 (Or.inl (wi hw 18 rfl)) (ty := (.array .int)) (by decide)
      have F34 : Fld Z h28 b28 "com/example/edgewise/edgewise/EdgeSlots" "weights" "[D" .null := D28 (Or.inl (wi hw 21 rfl)) (ty := (.array .double)) (by decide)
      have F35 : Fld Z h28 b28 "com/example/edgewise/edgewise/EdgeSlots" "keys" "[I" .null := D28 (Or.inl (wi hw 23 rfl)) (ty := (.array .int)) (by decide)
      have F36 : Fld Z h28 b28 "com/example/edgewise/edgewise/EdgeSlots" "keptNumbers" "[J" .null := D28 (Or.inl (wi hw 26 rfl)) (ty := (.array .long)) (by decide)
      have F37 : Fld Z h28 b28 "com/example/edgewise/edgewise/EdgeSlots" "keyed" "Z" (.int (0 : Int32)) := D28 (Or.inr (wi hw 28 rfl)) (ty := .boolean) (by decide)
      have F38 : Fld Z h28 b28 "com/example/edgewise/edgewise/EdgeSlots" "bound" "I" (.int (0 : Int32)) := D28 (Or.inl (wi hw 39 rfl)) (ty := .int) (by decide)
      have F39 : Fld Z h28 b28 "com/example/edgewise/edgewise/EdgeSlots" "count" "I" (.int (0 : Int32)) := D28 (Or.inl (wi hw 79 rfl)) (ty := .int) (by decide)
      have F40 : Fld Z h28 b28 "com/example/edgewise/edgewise/EdgeSlots" "nextNumber" "J" (.long (0 : Int64)) := D28 (Or.inl (wi hw 81 rfl)) (ty := .long) (by decide)
      refine g_dup X28 hx hby at_55 (pc' := 56) rfl rfl ?_
      refine g_iload X28 hx hby at_56 (pc' := 58) rfl rfl ?_
      refine Go.callI X28 hx hZ (y := (⟨"com/example/edgewise/edgewise/EdgeSlots", "<init>", "(Z)V"⟩ : MethodName)) hown rfl (wi hw 4 rfl) (wi hw 5 rfl) (wi hw 3 rfl) (wi hw 6 rfl) (by decide) e28 (a := b28) (argsL := [(.int (1 : Int32))]) (rest := [(.ref b28)]) (W := 1) (rm_init1 l Z a0 hw b28 h28 n0 (Nat.le_trans Z0 E28.1) A28 F30 F31 F32 F33 F34 F35 F36 F37 F38 F39 F40 g29) (hb hby at_58) (by rw [hml]; rfl) rfl pd_aZzV rfl rfl (by decide) (by decide) (by decide) (by decide) ?_
      intro v41 T41 L41 X41 hQ41
      obtain ⟨h41, e41⟩ : ∃ z, T41.heap = z := ⟨_, rfl⟩
      rw [e41] at hQ41
      obtain ⟨b1_41, b2_41, b3_41, b4_41, b5_41, b6_41, b7_41, rfl, Nq41, Kq41, gqb1_41, sqb1_41, gqb2_41, sqb2_41, gqb3_41, sqb3_41, gqb4_41, sqb4_41, gqb5_41, sqb5_41, gqb6_41, sqb6_41, gqb7_41, sqb7_41, nqb1_b2_41, nqb1_b3_41, nqb1_b4_41, nqb1_b5_41, nqb1_b6_41, nqb1_b7_41, nqb2_b3_41, nqb2_b4_41, nqb2_b5_41, nqb2_b6_41, nqb2_b7_41, nqb3_b4_41, nqb3_b5_41, nqb3_b6_41, nqb3_b7_41, nqb4_b5_41, nqb4_b6_41, nqb4_b7_41, nqb5_b6_41, nqb5_b7_41, nqb6_b7_41, Fq0_41, Fq1_41, Fq2_41, Fq3_41, Fq4_41, Fq5_41, Fq6_41, Fq7_41, Fq8_41, Fq9_41, Fq10_41, Fq11_41, Fq12_41, Fq13_41, Fq14_41, Fq15_41, Fq16_41, Fq17_41⟩ := hQ41
      have N41 := Fr.app N0 Nq41
      show Go p.tables e below s _ _ _ (T41.setTop (mkF m 61 #[.val (.int p1), .val (.int p2), .val (.int p3), .val (.int p4), .val (.int p5), .val (.int p6), .val (.int (0 : Int32)), .val (.int v2), .val (.int v3), .val (.int v4), .val (.int v5), .val (.int (1 : Int32)), .unset, .unset] [(.ref b28)]))
      refine g_astore X41 hx hby at_61 (pc' := 63) rfl rfl (L' := #[.val (.int p1), .val (.int p2), .val (.int p3), .val (.int p4), .val (.int p5), .val (.int p6), .val (.int (0 : Int32)), .val (.int v2), .val (.int v3), .val (.int v4), .val (.int v5), .val (.int (1 : Int32)), .val (.ref b28), .unset]) rfl ?_
      refine g_iload X41 hx hby at_63 (pc' := 65) rfl rfl ?_
      have hc65 : ¬ ((0 : Int) < (0 : Int)) := by decide
      refine g_ifYes X41 hx hby at_65 (pc' := 81) (flt (show ¬ ((0 : Int32) < (0 : Int32)) from fun q => hc65 (Int32.lt_iff_toInt_lt.mp q))).2.2.2 (by decide) (by decide) ?_
      refine g_iload X41 hx hby at_81 (pc' := 83) rfl rfl ?_
      refine g_iconst X41 hx hby at_83 (pc' := 84) rfl (z := (1 : Int32)) rfl ?_
      have hc84 : ¬ ((1 : Int) < (0 : Int)) := by decide
      refine g_icmpYes X41 hx hby at_84 (pc' := 102) (flt (show ¬ ((1 : Int32) < (0 : Int32)) from fun q => hc84 (Int32.lt_iff_toInt_lt.mp q))).2.2.2 (by decide) (by decide) ?_
      refine g_iload X41 hx hby at_102 (pc' := 104) rfl rfl ?_
      refine g_iconst X41 hx hby at_104 (pc' := 105) rfl (z := (2 : Int32)) rfl ?_
      have hc105 : ¬ ((2 : Int) < (0 : Int)) := by decide
      refine g_icmpYes X41 hx hby at_105 (pc' := 122) (flt (show ¬ ((2 : Int32) < (0 : Int32)) from fun q => hc105 (Int32.lt_iff_toInt_lt.mp q))).2.2.2 (by decide) (by decide) ?_
      refine g_iload X41 hx hby at_122 (pc' := 124) rfl rfl ?_
      refine g_iconst X41 hx hby at_124 (pc' := 125) rfl (z := (3 : Int32)) rfl ?_
      have hc125 : ¬ ((3 : Int) < (0 : Int)) := by decide
      refine g_icmpYes X41 hx hby at_125 (pc' := 142) (flt (show ¬ ((3 : Int32) < (0 : Int32)) from fun q => hc125 (Int32.lt_iff_toInt_lt.mp q))).2.2.2 (by decide) (by decide) ?_
      have ne42 : b28 ≠ b1_41 := Nat.ne_of_lt (Nat.lt_of_lt_of_le F40.lt sqb1_41)
      have ne43 : b28 ≠ b2_41 := Nat.ne_of_lt (Nat.lt_of_lt_of_le F40.lt sqb2_41)
      have f44 := A28.keep Kq41
      exact J142 (T41, _, h41, (1 : Int32), b28, b1_41, b2_41) ⟨X41.more (by decide) (by decide), e41, N41, (Nat.le_trans (Nat.le_trans Z0 E28.1) Kq41.1), f44, Fq0_41, Fq1_41, Fq8_41, Fq9_41, Fq11_41, Fq12_41, (show b1_41 ≠ b28 ∧ b2_41 ≠ b28 ∧ b1_41 ≠ b2_41 ∧ n0 ≤ b28 ∧ n0 ≤ b1_41 ∧ n0 ≤ b2_41 from ⟨(Ne.symm ne42), (Ne.symm ne43), nqb1_b2_41, g29, gqb1_41, gqb2_41⟩)⟩
  · show Go p.tables e below s _ _ _ (T0.setTop (mkF m 8 #[.val (.int p1), .val (.int p2), .val (.int p3), .val (.int p4), .val (.int p5), .val (.int p6), .val (.int (1 : Int32)), .unset, .unset, .unset, .unset, .unset, .unset, .unset] []))
    refine g_iloadN X0 hx hby at_8 (pc' := 9) rfl rfl ?_
    refine g_bipush X0 hx hby at_9 (pc' := 11) rfl (z := (15 : Int32)) rfl ?_
    refine g_iand X0 hx hby at_11 (pc' := 12) rfl rfl ?_
    show Go p.tables e below s _ _ _ (T0.setTop (mkF m 12 #[.val (.int p1), .val (.int p2), .val (.int p3), .val (.int p4), .val (.int p5), .val (.int p6), .val (.int (1 : Int32)), .unset, .unset, .unset, .unset, .unset, .unset, .unset] [(.int (p2 &&& (15 : Int32)))]))
    generalize hv45 : (p2 &&& (15 : Int32)) = v45
    refine g_istore X0 hx hby at_12 (pc' := 14) rfl (L' := #[.val (.int p1), .val (.int p2), .val (.int p3), .val (.int p4), .val (.int p5), .val (.int p6), .val (.int (1 : Int32)), .val (.int v45), .unset, .unset, .unset, .unset, .unset, .unset]) rfl ?_
    refine g_iloadN X0 hx hby at_14 (pc' := 15) rfl rfl ?_
    refine g_ldcI X0 hx hby hZ hown (wi hw 0 rfl) at_15 (pc' := 17) rfl ?_
    refine g_iand X0 hx hby at_17 (pc' := 18) rfl rfl ?_
    refine g_iload X0 hx hby at_18 (pc' := 20) rfl rfl ?_
    refine g_iconst X0 hx hby at_20 (pc' := 21) rfl (z := (1 : Int32)) rfl ?_
    refine g_iadd X0 hx hby at_21 (pc' := 22) rfl (z := (2 : Int32)) rfl ?_
    refine g_irem X0 hx hby at_22 (pc' := 23) rfl (by decide) rfl ?_
    show Go p.tables e below s _ _ _ (T0.setTop (mkF m 23 #[.val (.int p1), .val (.int p2), .val (.int p3), .val (.int p4), .val (.int p5), .val (.int p6), .val (.int (1 : Int32)), .val (.int v45), .unset, .unset, .unset, .unset, .unset, .unset] [(.int ((p3 &&& (2147483647 : Int32)) % (2 : Int32)))]))
    generalize hv46 : ((p3 &&& (2147483647 : Int32)) % (2 : Int32)) = v46
    refine g_istore X0 hx hby at_23 (pc' := 25) rfl (L' := #[.val (.int p1), .val (.int p2), .val (.int p3), .val (.int p4), .val (.int p5), .val (.int p6), .val (.int (1 : Int32)), .val (.int v45), .val (.int v46), .unset, .unset, .unset, .unset, .unset]) rfl ?_
    refine g_iloadN X0 hx hby at_25 (pc' := 26) rfl rfl ?_
    refine g_ldcI X0 hx hby hZ hown (wi hw 0 rfl) at_26 (pc' := 28) rfl ?_
    refine g_iand X0 hx hby at_28 (pc' := 29) rfl rfl ?_
    show Go p.tables e below s _ _ _ (T0.setTop (mkF m 29 #[.val (.int p1), .val (.int p2), .val (.int p3), .val (.int p4), .val (.int p5), .val (.int p6), .val (.int (1 : Int32)), .val (.int v45), .val (.int v46), .unset, .unset, .unset, .unset, .unset] [(.int (p4 &&& (2147483647 : Int32)))]))
    generalize hv47 : (p4 &&& (2147483647 : Int32)) = v47
    refine g_istore X0 hx hby at_29 (pc' := 31) rfl (L' := #[.val (.int p1), .val (.int p2), .val (.int p3), .val (.int p4), .val (.int p5), .val (.int p6), .val (.int (1 : Int32)), .val (.int v45), .val (.int v46), .val (.int v47), .unset, .unset, .unset, .unset]) rfl ?_
    refine g_iload X0 hx hby at_31 (pc' := 33) rfl rfl ?_
    refine g_ldcI X0 hx hby hZ hown (wi hw 0 rfl) at_33 (pc' := 35) rfl ?_
    refine g_iand X0 hx hby at_35 (pc' := 36) rfl rfl ?_
    show Go p.tables e below s _ _ _ (T0.setTop (mkF m 36 #[.val (.int p1), .val (.int p2), .val (.int p3), .val (.int p4), .val (.int p5), .val (.int p6), .val (.int (1 : Int32)), .val (.int v45), .val (.int v46), .val (.int v47), .unset, .unset, .unset, .unset] [(.int (p5 &&& (2147483647 : Int32)))]))
    generalize hv48 : (p5 &&& (2147483647 : Int32)) = v48
    refine g_istore X0 hx hby at_36 (pc' := 38) rfl (L' := #[.val (.int p1), .val (.int p2), .val (.int p3), .val (.int p4), .val (.int p5), .val (.int p6), .val (.int (1 : Int32)), .val (.int v45), .val (.int v46), .val (.int v47), .val (.int v48), .unset, .unset, .unset]) rfl ?_
    have hm : 0 ≤ v45.toInt ∧ v45.toInt ≤ 15 := by rw [← hv45]; have : (p2 &&& (15 : Int32)).toInt = p2.toInt % 16 := c_mask _ _ 4 (by decide) (by decide); have : -2147483648 ≤ (p2 &&& (15 : Int32)).toInt ∧ (p2 &&& (15 : Int32)).toInt < 2147483648 := rng32 _; have : -2147483648 ≤ p2.toInt ∧ p2.toInt < 2147483648 := rng32 _; omega
    obtain ⟨ks, hkle, hks⟩ : ∃ ks : Nat, ks ≤ 1 ∧ v46.toInt = (ks : Int) := ⟨v46.toInt.toNat, by rw [← hv46]; have : (0 ≤ (p3 &&& (2147483647 : Int32)).toInt → ((p3 &&& (2147483647 : Int32)) % (2 : Int32)).toInt = (p3 &&& (2147483647 : Int32)).toInt % 2) ∧ ((p3 &&& (2147483647 : Int32)).toInt < 0 → ((p3 &&& (2147483647 : Int32)) % (2 : Int32)).toInt = -((-(p3 &&& (2147483647 : Int32)).toInt) % 2)) := c_irem _ _ 2 rfl; have : -2147483648 ≤ ((p3 &&& (2147483647 : Int32)) % (2 : Int32)).toInt ∧ ((p3 &&& (2147483647 : Int32)) % (2 : Int32)).toInt < 2147483648 := rng32 _; have : (p3 &&& (2147483647 : Int32)).toInt = p3.toInt % 2147483648 := c_mask _ _ 31 (by decide) (by decide); have : -2147483648 ≤ (p3 &&& (2147483647 : Int32)).toInt ∧ (p3 &&& (2147483647 : Int32)).toInt < 2147483648 := rng32 _; have : -2147483648 ≤ p3.toInt ∧ p3.toInt < 2147483648 := rng32 _; omega, by rw [← hv46]; have : (0 ≤ (p3 &&& (2147483647 : Int32)).toInt → ((p3 &&& (2147483647 : Int32)) % (2 : Int32)).toInt = (p3 &&& (2147483647 : Int32)).toInt % 2) ∧ ((p3 &&& (2147483647 : Int32)).toInt < 0 → ((p3 &&& (2147483647 : Int32)) % (2 : Int32)).toInt = -((-(p3 &&& (2147483647 : Int32)).toInt) % 2)) := c_irem _ _ 2 rfl; have : -2147483648 ≤ ((p3 &&& (2147483647 : Int32)) % (2 : Int32)).toInt ∧ ((p3 &&& (2147483647 : Int32)) % (2 : Int32)).toInt < 2147483648 := rng32 _; have : (p3 &&& (2147483647 : Int32)).toInt = p3.toInt % 2147483648 := c_mask _ _ 31 (by decide) (by decide); have : -2147483648 ≤ (p3 &&& (2147483647 : Int32)).toInt ∧ (p3 &&& (2147483647 : Int32)).toInt < 2147483648 := rng32 _; have : -2147483648 ≤ p3.toInt ∧ p3.toInt < 2147483648 := rng32 _; omega⟩
    have hva : 0 ≤ v47.toInt := by rw [← hv47]; have : (p4 &&& (2147483647 : Int32)).toInt = p4.toInt % 2147483648 := c_mask _ _ 31 (by decide) (by decide); have : -2147483648 ≤ (p4 &&& (2147483647 : Int32)).toInt ∧ (p4 &&& (2147483647 : Int32)).toInt < 2147483648 := rng32 _; have : -2147483648 ≤ p4.toInt ∧ p4.toInt < 2147483648 := rng32 _; omega
    have hvb : 0 ≤ v48.toInt := by rw [← hv48]; have : (p5 &&& (2147483647 : Int32)).toInt = p5.toInt % 2147483648 := c_mask _ _ 31 (by decide) (by decide); have : -2147483648 ≤ (p5 &&& (2147483647 : Int32)).toInt ∧ (p5 &&& (2147483647 : Int32)).toInt < 2147483648 := rng32 _; have : -2147483648 ≤ p5.toInt ∧ p5.toInt < 2147483648 := rng32 _; omega
    refine Go.join (α := State × (List Loc) × Heap × Int32 × Addr × Addr × Addr) (P := fun x => (fun (Tj142 : State) (Lj142 : List Loc) (hj142 : Heap) (fl : Int32) (oa : Addr) (xa : Addr) (xb : Addr) => Stand p l e room_1 s m #[(.int p1), (.int p2), (.int p3), (.int p4), (.int p5), (.int p6)] below meth c Tj142 Lj142 14 35 ∧ Tj142.heap = hj142 ∧ Fr n0 Lj142 ∧ n0 ≤ hj142.size ∧ Exa Z hj142 oa "com/example/edgewise/edgewise/EdgeSlots" ∧ Fld Z hj142 oa "com/example/edgewise/edgewise/EdgeSlots" "sources" "[I" (.ref xa) ∧ Fld Z hj142 oa "com/example/edgewise/edgewise/EdgeSlots" "targets" "[I" (.ref xb) ∧ Fld Z hj142 oa "com/example/edgewise/edgewise/EdgeSlots" "bound" "I" (.int (1 : Int32)) ∧ Fld Z hj142 oa "com/example/edgewise/edgewise/EdgeSlots" "count" "I" (.int (1 : Int32)) ∧ ArF Z hj142 xa .int 4 (fun i => .int ((upI (fun _ => (0 : Int32)) 0 v47) i)) ∧ ArF Z hj142 xb .int 4 (fun i => .int ((upI (fun _ => (0 : Int32)) 0 v48) i)) ∧ (xa ≠ oa ∧ xb ≠ oa ∧ xa ≠ xb ∧ n0 ≤ oa ∧ n0 ≤ xa ∧ n0 ≤ xb)) x.1 x.2.1 x.2.2.1 x.2.2.2.1 x.2.2.2.2.1 x.2.2.2.2.2.1 x.2.2.2.2.2.2) (F := fun x => (fun (Tj142 : State) (Lj142 : List Loc) (hj142 : Heap) (fl : Int32) (oa : Addr) (xa : Addr) (xb : Addr) => Tj142.setTop (mkF m 142 #[.val (.int p1), .val (.int p2), .val (.int p3), .val (.int p4), .val (.int p5), .val (.int p6), .val (.int (1 : Int32)), .val (.int v45), .val (.int v46), .val (.int v47), .val (.int v48), .val (.int fl), .val (.ref oa), .unset] [])) x.1 x.2.1 x.2.2.1 x.2.2.2.1 x.2.2.2.2.1 x.2.2.2.2.2.1 x.2.2.2.2.2.2) ?_ ?_
    · rintro ⟨Tj142, Lj142, hj142, fl, oa, xa, xb⟩ hP142
      obtain ⟨Xj142, ej142, Nj142, zj142, fj142_0, fj142_1, fj142_2, fj142_3, fj142_4, fj142_5, fj142_6, hJ142⟩ : Stand p l e room_1 s m #[(.int p1), (.int p2), (.int p3), (.int p4), (.int p5), (.int p6)] below meth c Tj142 Lj142 14 35 ∧ Tj142.heap = hj142 ∧ Fr n0 Lj142 ∧ n0 ≤ hj142.size ∧ Exa Z hj142 oa "com/example/edgewise/edgewise/EdgeSlots" ∧ Fld Z hj142 oa "com/example/edgewise/edgewise/EdgeSlots" "sources" "[I" (.ref xa) ∧ Fld Z hj142 oa "com/example/edgewise/edgewise/EdgeSlots" "targets" "[I" (.ref xb) ∧ Fld Z hj142 oa "com/example/edgewise/edgewise/EdgeSlots" "bound" "I" (.int (1 : Int32)) ∧ Fld Z hj142 oa "com/example/edgewise/edgewise/EdgeSlots" "count" "I" (.int (1 : Int32)) ∧ ArF Z hj142 xa .int 4 (fun i => .int ((upI (fun _ => (0 : Int32)) 0 v47) i)) ∧ ArF Z hj142 xb .int 4 (fun i => .int ((upI (fun _ => (0 : Int32)) 0 v48) i)) ∧ (xa ≠ oa ∧ xb ≠ oa ∧ xa ≠ xb ∧ n0 ≤ oa ∧ n0 ≤ xa ∧ n0 ≤ xb) := hP142
      show Go p.tables e below s _ _ _ (Tj142.setTop (mkF m 142 #[.val (.int p1), .val (.int p2), .val (.int p3), .val (.int p4), .val (.int p5), .val (.int p6), .val (.int (1 : Int32)), .val (.int v45), .val (.int v46), .val (.int v47), .val (.int v48), .val (.int fl), .val (.ref oa), .unset] []))
      obtain ⟨ne1, ne2, ne3, ge1, ge2, ge3⟩ := hJ142
      refine g_iload Xj142 hx hby at_142 (pc' := 144) rfl rfl ?_
      have hc144 : (0 : Int) < (1 : Int) := by decide
      refine g_ifNo Xj142 hx hby at_144 (pc' := 147) (tlt (show (0 : Int32) < (1 : Int32) from Int32.lt_iff_toInt_lt.mpr hc144)).2.2.2 rfl ?_
      refine Go.join (α := State × (List Loc) × Heap × (Nat → Int32) × (Nat → Int32) × Int32) (P := fun x => (fun (Tj160 : State) (Lj160 : List Loc) (hj160 : Heap) (ga0 : Nat → Int32) (gb0 : Nat → Int32) (ca0 : Int32) => Stand p l e room_1 s m #[(.int p1), (.int p2), (.int p3), (.int p4), (.int p5), (.int p6)] below meth c Tj160 Lj160 14 35 ∧ Tj160.heap = hj160 ∧ Fr n0 Lj160 ∧ n0 ≤ hj160.size ∧ Exa Z hj160 oa "com/example/edgewise/edgewise/EdgeSlots" ∧ Fld Z hj160 oa "com/example/edgewise/edgewise/EdgeSlots" "sources" "[I" (.ref xa) ∧ Fld Z hj160 oa "com/example/edgewise/edgewise/EdgeSlots" "targets" "[I" (.ref xb) ∧ Fld Z hj160 oa "com/example/edgewise/edgewise/EdgeSlots" "bound" "I" (.int (1 : Int32)) ∧ Fld Z hj160 oa "com/example/edgewise/edgewise/EdgeSlots" "count" "I" (.int ca0) ∧ ArF Z hj160 xa .int 4 (fun i => .int (ga0 i)) ∧ ArF Z hj160 xb .int 4 (fun i => .int (gb0 i)) ∧ (ga0 = own_rm (upI (fun _ => (0 : Int32)) 0 v47) v45 (1 : Int32) 0)) x.1 x.2.1 x.2.2.1 x.2.2.2.1 x.2.2.2.2.1 x.2.2.2.2.2) (F := fun x => (fun (Tj160 : State) (Lj160 : List Loc) (hj160 : Heap) (ga0 : Nat → Int32) (gb0 : Nat → Int32) (ca0 : Int32) => Tj160.setTop (mkF m 160 #[.val (.int p1), .val (.int p2), .val (.int p3), .val (.int p4), .val (.int p5), .val (.int p6), .val (.int (1 : Int32)), .val (.int v45), .val (.int v46), .val (.int v47), .val (.int v48), .val (.int fl), .val (.ref oa), .unset] [])) x.1 x.2.1 x.2.2.1 x.2.2.2.1 x.2.2.2.2.1 x.2.2.2.2.2) ?_ ?_
      · rintro ⟨Tj160, Lj160, hj160, ga0, gb0, ca0⟩ hP160
        obtain ⟨Xj160, ej160, Nj160, zj160, fj160_0, fj160_1, fj160_2, fj160_3, fj160_4, fj160_5, fj160_6, hJ160⟩ : Stand p l e room_1 s m #[(.int p1), (.int p2), (.int p3), (.int p4), (.int p5), (.int p6)] below meth c Tj160 Lj160 14 35 ∧ Tj160.heap = hj160 ∧ Fr n0 Lj160 ∧ n0 ≤ hj160.size ∧ Exa Z hj160 oa "com/example/edgewise/edgewise/EdgeSlots" ∧ Fld Z hj160 oa "com/example/edgewise/edgewise/EdgeSlots" "sources" "[I" (.ref xa) ∧ Fld Z hj160 oa "com/example/edgewise/edgewise/EdgeSlots" "targets" "[I" (.ref xb) ∧ Fld Z hj160 oa "com/example/edgewise/edgewise/EdgeSlots" "bound" "I" (.int (1 : Int32)) ∧ Fld Z hj160 oa "com/example/edgewise/edgewise/EdgeSlots" "count" "I" (.int ca0) ∧ ArF Z hj160 xa .int 4 (fun i => .int (ga0 i)) ∧ ArF Z hj160 xb .int 4 (fun i => .int (gb0 i)) ∧ (ga0 = own_rm (upI (fun _ => (0 : Int32)) 0 v47) v45 (1 : Int32) 0) := hP160
        show Go p.tables e below s _ _ _ (Tj160.setTop (mkF m 160 #[.val (.int p1), .val (.int p2), .val (.int p3), .val (.int p4), .val (.int p5), .val (.int p6), .val (.int (1 : Int32)), .val (.int v45), .val (.int v46), .val (.int v47), .val (.int v48), .val (.int fl), .val (.ref oa), .unset] []))
        refine g_iload Xj160 hx hby at_160 (pc' := 162) rfl rfl ?_
        refine g_iconst Xj160 hx hby at_162 (pc' := 163) rfl (z := (1 : Int32)) rfl ?_
        have hc163 : ¬ ((1 : Int) < (1 : Int)) := by decide
        refine g_icmpYes Xj160 hx hby at_163 (pc' := 179) (flt (show ¬ ((1 : Int32) < (1 : Int32)) from fun q => hc163 (Int32.lt_iff_toInt_lt.mp q))).2.2.2 (by decide) (by decide) ?_
        refine g_iload Xj160 hx hby at_179 (pc' := 181) rfl rfl ?_
        refine g_iconst Xj160 hx hby at_181 (pc' := 182) rfl (z := (2 : Int32)) rfl ?_
        have hc182 : ¬ ((2 : Int) < (1 : Int)) := by decide
        refine g_icmpYes Xj160 hx hby at_182 (pc' := 198) (flt (show ¬ ((2 : Int32) < (1 : Int32)) from fun q => hc182 (Int32.lt_iff_toInt_lt.mp q))).2.2.2 (by decide) (by decide) ?_
        refine g_iload Xj160 hx hby at_198 (pc' := 200) rfl rfl ?_
        refine g_iconst Xj160 hx hby at_200 (pc' := 201) rfl (z := (3 : Int32)) rfl ?_
        have hc201 : ¬ ((3 : Int) < (1 : Int)) := by decide
        refine g_icmpYes Xj160 hx hby at_201 (pc' := 218) (flt (show ¬ ((3 : Int32) < (1 : Int32)) from fun q => hc201 (Int32.lt_iff_toInt_lt.mp q))).2.2.2 (by decide) (by decide) ?_
        refine g_iload Xj160 hx hby at_218 (pc' := 220) rfl rfl ?_
        refine g_istore Xj160 hx hby at_220 (pc' := 222) rfl (L' := #[.val (.int p1), .val (.int p2), .val (.int p3), .val (.int p4), .val (.int p5), .val (.int p6), .val (.int (1 : Int32)), .val (.int v45), .val (.int v46), .val (.int v47), .val (.int v48), .val (.int fl), .val (.ref oa), .val (.int (1 : Int32))]) rfl ?_
        refine Go.join (α := State × (List Loc) × Int32) (P := fun x => (fun (Tj242 : State) (Lj242 : List Loc) (ee3 : Int32) => Stand p l e room_1 s m #[(.int p1), (.int p2), (.int p3), (.int p4), (.int p5), (.int p6)] below meth c Tj242 Lj242 14 35 ∧ Tj242.heap = hj160 ∧ Fr n0 Lj242 ∧ (ee3 = own_ei 3 (3 : Int32) v46 (1 : Int32) v45 (1 : Int32))) x.1 x.2.1 x.2.2) (F := fun x => (fun (Tj242 : State) (Lj242 : List Loc) (ee3 : Int32) => Tj242.setTop (mkF m 242 #[.val (.int p1), .val (.int p2), .val (.int p3), .val (.int p4), .val (.int p5), .val (.int p6), .val (.int (1 : Int32)), .val (.int v45), .val (.int v46), .val (.int v47), .val (.int v48), .val (.int fl), .val (.ref oa), .val (.int ee3)] [])) x.1 x.2.1 x.2.2) ?_ ?_
        · rintro ⟨Tj242, Lj242, ee3⟩ hP242
          obtain ⟨Xj242, ej242, Nj242, hJ242⟩ : Stand p l e room_1 s m #[(.int p1), (.int p2), (.int p3), (.int p4), (.int p5), (.int p6)] below meth c Tj242 Lj242 14 35 ∧ Tj242.heap = hj160 ∧ Fr n0 Lj242 ∧ (ee3 = own_ei 3 (3 : Int32) v46 (1 : Int32) v45 (1 : Int32)) := hP242
          show Go p.tables e below s _ _ _ (Tj242.setTop (mkF m 242 #[.val (.int p1), .val (.int p2), .val (.int p3), .val (.int p4), .val (.int p5), .val (.int p6), .val (.int (1 : Int32)), .val (.int v45), .val (.int v46), .val (.int v47), .val (.int v48), .val (.int fl), .val (.ref oa), .val (.int ee3)] []))
          refine Go.join (α := State × (List Loc) × Int32) (P := fun x => (fun (Tj262 : State) (Lj262 : List Loc) (ee2 : Int32) => Stand p l e room_1 s m #[(.int p1), (.int p2), (.int p3), (.int p4), (.int p5), (.int p6)] below meth c Tj262 Lj262 14 35 ∧ Tj262.heap = hj160 ∧ Fr n0 Lj262 ∧ (ee2 = own_ei 2 (2 : Int32) v46 (1 : Int32) v45 ee3)) x.1 x.2.1 x.2.2) (F := fun x => (fun (Tj262 : State) (Lj262 : List Loc) (ee2 : Int32) => Tj262.setTop (mkF m 262 #[.val (.int p1), .val (.int p2), .val (.int p3), .val (.int p4), .val (.int p5), .val (.int p6), .val (.int (1 : Int32)), .val (.int v45), .val (.int v46), .val (.int v47), .val (.int v48), .val (.int fl), .val (.ref oa), .val (.int ee2)] [])) x.1 x.2.1 x.2.2) ?_ ?_
          · rintro ⟨Tj262, Lj262, ee2⟩ hP262
            obtain ⟨Xj262, ej262, Nj262, hJ262⟩ : Stand p l e room_1 s m #[(.int p1), (.int p2), (.int p3), (.int p4), (.int p5), (.int p6)] below meth c Tj262 Lj262 14 35 ∧ Tj262.heap = hj160 ∧ Fr n0 Lj262 ∧ (ee2 = own_ei 2 (2 : Int32) v46 (1 : Int32) v45 ee3) := hP262
            show Go p.tables e below s _ _ _ (Tj262.setTop (mkF m 262 #[.val (.int p1), .val (.int p2), .val (.int p3), .val (.int p4), .val (.int p5), .val (.int p6), .val (.int (1 : Int32)), .val (.int v45), .val (.int v46), .val (.int v47), .val (.int v48), .val (.int fl), .val (.ref oa), .val (.int ee2)] []))
            refine Go.join (α := State × (List Loc) × Int32) (P := fun x => (fun (Tj282 : State) (Lj282 : List Loc) (ee1 : Int32) => Stand p l e room_1 s m #[(.int p1), (.int p2), (.int p3), (.int p4), (.int p5), (.int p6)] below meth c Tj282 Lj282 14 35 ∧ Tj282.heap = hj160 ∧ Fr n0 Lj282 ∧ (ee1 = own_ei 1 (1 : Int32) v46 (1 : Int32) v45 ee2)) x.1 x.2.1 x.2.2) (F := fun x => (fun (Tj282 : State) (Lj282 : List Loc) (ee1 : Int32) => Tj282.setTop (mkF m 282 #[.val (.int p1), .val (.int p2), .val (.int p3), .val (.int p4), .val (.int p5), .val (.int p6), .val (.int (1 : Int32)), .val (.int v45), .val (.int v46), .val (.int v47), .val (.int v48), .val (.int fl), .val (.ref oa), .val (.int ee1)] [])) x.1 x.2.1 x.2.2) ?_ ?_
            · rintro ⟨Tj282, Lj282, ee1⟩ hP282
              obtain ⟨Xj282, ej282, Nj282, hJ282⟩ : Stand p l e room_1 s m #[(.int p1), (.int p2), (.int p3), (.int p4), (.int p5), (.int p6)] below meth c Tj282 Lj282 14 35 ∧ Tj282.heap = hj160 ∧ Fr n0 Lj282 ∧ (ee1 = own_ei 1 (1 : Int32) v46 (1 : Int32) v45 ee2) := hP282
              show Go p.tables e below s _ _ _ (Tj282.setTop (mkF m 282 #[.val (.int p1), .val (.int p2), .val (.int p3), .val (.int p4), .val (.int p5), .val (.int p6), .val (.int (1 : Int32)), .val (.int v45), .val (.int v46), .val (.int v47), .val (.int v48), .val (.int fl), .val (.ref oa), .val (.int ee1)] []))
              refine Go.join (α := State × (List Loc) × Int32) (P := fun x => (fun (Tj302 : State) (Lj302 : List Loc) (ee0 : Int32) => Stand p l e room_1 s m #[(.int p1), (.int p2), (.int p3), (.int p4), (.int p5), (.int p6)] below meth c Tj302 Lj302 14 35 ∧ Tj302.heap = hj160 ∧ Fr n0 Lj302 ∧ (ee0 = own_ei 0 (0 : Int32) v46 (1 : Int32) v45 ee1)) x.1 x.2.1 x.2.2) (F := fun x => (fun (Tj302 : State) (Lj302 : List Loc) (ee0 : Int32) => Tj302.setTop (mkF m 302 #[.val (.int p1), .val (.int p2), .val (.int p3), .val (.int p4), .val (.int p5), .val (.int p6), .val (.int (1 : Int32)), .val (.int v45), .val (.int v46), .val (.int v47), .val (.int v48), .val (.int fl), .val (.ref oa), .val (.int ee0)] [])) x.1 x.2.1 x.2.2) ?_ ?_
              · rintro ⟨Tj302, Lj302, ee0⟩ hP302
                obtain ⟨Xj302, ej302, Nj302, hJ302⟩ : Stand p l e room_1 s m #[(.int p1), (.int p2), (.int p3), (.int p4), (.int p5), (.int p6)] below meth c Tj302 Lj302 14 35 ∧ Tj302.heap = hj160 ∧ Fr n0 Lj302 ∧ (ee0 = own_ei 0 (0 : Int32) v46 (1 : Int32) v45 ee1) := hP302
                show Go p.tables e below s _ _ _ (Tj302.setTop (mkF m 302 #[.val (.int p1), .val (.int p2), .val (.int p3), .val (.int p4), .val (.int p5), .val (.int p6), .val (.int (1 : Int32)), .val (.int v45), .val (.int v46), .val (.int v47), .val (.int v48), .val (.int fl), .val (.ref oa), .val (.int ee0)] []))
                refine g_aload Xj302 hx hby at_302 (pc' := 304) rfl rfl rfl ?_
                refine g_iload Xj302 hx hby at_304 (pc' := 306) rfl rfl ?_
                refine Go.callV Xj302 hx hZ (y := (⟨"com/example/edgewise/edgewise/EdgeSlots", "nextLive", "(I)I"⟩ : MethodName)) (z := (⟨"com/example/edgewise/edgewise/EdgeSlots", "nextLive", "(I)I"⟩ : MethodName)) hown (wi hw 33 rfl) (wi hw 34 rfl) (notFace_of_selects (args := #[]) (mvT hZ (wi hw 36 rfl))) (wi hw 36 rfl) (wi hw 35 rfl) (wi hw 3 rfl) (wi hw 37 rfl) (by decide) ej302 (a := oa) (argsL := [(.int v46)]) (rest := []) (W := 0) fj160_0 (rm_nl l Z a0 hw oa v46 xa 4 ga0 (1 : Int32) 1 ks hj160 n0 zj160 fj160_3 fj160_1 fj160_5 rfl hks (by decide) hkle) (hb hby at_306) (by rw [hml]; rfl) rfl pd_aIzI rfl rfl (by decide) (by decide) (by decide) (by decide) ?_
                intro v49 T49 L49 X49 hQ49
                obtain ⟨rfl, Nq49, hh49⟩ := hQ49
                have N49 := Fr.app Nj302 Nq49
                show Go p.tables e below s _ _ _ (T49.setTop (mkF m 309 #[.val (.int p1), .val (.int p2), .val (.int p3), .val (.int p4), .val (.int p5), .val (.int p6), .val (.int (1 : Int32)), .val (.int v45), .val (.int v46), .val (.int v47), .val (.int v48), .val (.int fl), .val (.ref oa), .val (.int ee0)] [(.int (own_nl ga0 (1 - ks) ks))]))
                have hfin : (own_nl ga0 (1 - ks) ks) = ee0 := by
                  rw [hJ302, hJ282, hJ262, hJ242, hJ160]
                  exact own_fin1 _ v45 v46 ks hm hks hkle  hva
                rw [hfin]
                show Go p.tables e below s _ _ _ (T49.setTop (mkF m 309 #[.val (.int p1), .val (.int p2), .val (.int p3), .val (.int p4), .val (.int p5), .val (.int p6), .val (.int (1 : Int32)), .val (.int v45), .val (.int v46), .val (.int v47), .val (.int v48), .val (.int fl), .val (.ref oa), .val (.int ee0)] [(.int ee0)]))
                refine g_iload X49 hx hby at_309 (pc' := 311) rfl rfl ?_
                have hc311 : ee0.toInt = ee0.toInt := rfl
                refine g_icmpNo X49 hx hby at_311 (pc' := 314) (teq (show ee0 = ee0 from Int32.toInt_inj.mp hc311)).2 rfl ?_
                refine g_iconst X49 hx hby at_314 (pc' := 315) rfl (z := (1 : Int32)) rfl ?_
                refine g_goto X49 hx hby at_315 (pc' := 319) (by decide) (by decide) ?_
                refine Go.retZ X49 hx hlk hret (by simp) (hb hby at_319) (by decide) (by decide) ?_
                exact ⟨rfl, N49⟩
              intro J302
              refine g_iconst Xj282 hx hby at_282 (pc' := 283) rfl (z := (0 : Int32)) rfl ?_
              refine g_iload Xj282 hx hby at_283 (pc' := 285) rfl rfl ?_
              by_cases hc285 : (0 : Int) < v46.toInt
              · refine g_icmpYes Xj282 hx hby at_285 (pc' := 302) (tlt (show (0 : Int32) < v46 from Int32.lt_iff_toInt_lt.mpr hc285)).1 (by decide) (by decide) ?_
                exact J302 (Tj282, _, ee1) ⟨Xj282.more (by decide) (by decide), ej282, Nj282, (show ee1 = own_ei 0 (0 : Int32) v46 (1 : Int32) v45 ee1 from (by unfold own_ei; first | (exfalso; omega) | (rw [if_pos (by omega)]) | (rw [if_neg (by omega)])))⟩
              · refine g_icmpNo Xj282 hx hby at_285 (pc' := 288) (flt (show ¬ ((0 : Int32) < v46) from fun q => hc285 (Int32.lt_iff_toInt_lt.mp q))).1 rfl ?_
                refine g_iconst Xj282 hx hby at_288 (pc' := 289) rfl (z := (0 : Int32)) rfl ?_
                refine g_iload Xj282 hx hby at_289 (pc' := 291) rfl rfl ?_
                refine g_iload Xj282 hx hby at_291 (pc' := 293) rfl rfl ?_
                refine Go.callS Xj282 hx hZ (y := (⟨"com/example/edgewise/edgewise/EdgeSlotsNextLivePinLaw", "live", "(III)Z"⟩ : MethodName)) hown (wi hw 29 rfl) (wi hw 30 rfl) (wi hw 31 rfl) (wi hw 32 rfl) (by decide) ej282 (argsL := [(.int (0 : Int32)), (.int (1 : Int32)), (.int v45)]) (rest := []) (W := 0) (rm_live l Z a0 hw (0 : Int32) (1 : Int32) v45 hj160 n0 zj160 ) (hb hby at_293) (by rw [hml]; rfl) rfl pd_aIIIzZ rfl rfl (by decide) (by decide) (by decide) (by decide) ?_
                intro v50 T50 L50 X50 hQ50
                obtain ⟨rfl, Nq50, hh50⟩ := hQ50
                have N50 := Fr.app Nj282 Nq50
                show Go p.tables e below s _ _ _ (T50.setTop (mkF m 296 #[.val (.int p1), .val (.int p2), .val (.int p3), .val (.int p4), .val (.int p5), .val (.int p6), .val (.int (1 : Int32)), .val (.int v45), .val (.int v46), .val (.int v47), .val (.int v48), .val (.int fl), .val (.ref oa), .val (.int ee1)] [(.int (own_live (0 : Int32) (1 : Int32) v45))]))
                by_cases hc296 : (own_live (0 : Int32) (1 : Int32) v45).toInt = (0 : Int)
                · refine g_ifYes X50 hx hby at_296 (pc' := 302) (teq (show (own_live (0 : Int32) (1 : Int32) v45) = (0 : Int32) from Int32.toInt_inj.mp hc296)).1 (by decide) (by decide) ?_
                  exact J302 (T50, _, ee1) ⟨X50.more (by decide) (by decide), hh50, N50, (show ee1 = own_ei 0 (0 : Int32) v46 (1 : Int32) v45 ee1 from (by unfold own_ei; first | (exfalso; omega) | (rw [if_pos (by omega)]) | (rw [if_neg (by omega)])))⟩
                · refine g_ifNo X50 hx hby at_296 (pc' := 299) (feq (show ¬ ((own_live (0 : Int32) (1 : Int32) v45) = (0 : Int32)) from fun q => hc296 (congrArg Int32.toInt q))).1 rfl ?_
                  refine g_iconst X50 hx hby at_299 (pc' := 300) rfl (z := (0 : Int32)) rfl ?_
                  refine g_istore X50 hx hby at_300 (pc' := 302) rfl (L' := #[.val (.int p1), .val (.int p2), .val (.int p3), .val (.int p4), .val (.int p5), .val (.int p6), .val (.int (1 : Int32)), .val (.int v45), .val (.int v46), .val (.int v47), .val (.int v48), .val (.int fl), .val (.ref oa), .val (.int (0 : Int32))]) rfl ?_
                  exact J302 (T50, _, (0 : Int32)) ⟨X50.more (by decide) (by decide), hh50, N50, (show (0 : Int32) = own_ei 0 (0 : Int32) v46 (1 : Int32) v45 ee1 from (by unfold own_ei; first | (exfalso; omega) | (rw [if_pos (by omega)]) | (rw [if_neg (by omega)])))⟩
            intro J282
            refine g_iconst Xj262 hx hby at_262 (pc' := 263) rfl (z := (1 : Int32)) rfl ?_
            refine g_iload Xj262 hx hby at_263 (pc' := 265) rfl rfl ?_
            by_cases hc265 : (1 : Int) < v46.toInt
            · refine g_icmpYes Xj262 hx hby at_265 (pc' := 282) (tlt (show (1 : Int32) < v46 from Int32.lt_iff_toInt_lt.mpr hc265)).1 (by decide) (by decide) ?_
              exact J282 (Tj262, _, ee2) ⟨Xj262.more (by decide) (by decide), ej262, Nj262, (show ee2 = own_ei 1 (1 : Int32) v46 (1 : Int32) v45 ee2 from (by unfold own_ei; first | (exfalso; omega) | (rw [if_pos (by omega)]) | (rw [if_neg (by omega)])))⟩
            · refine g_icmpNo Xj262 hx hby at_265 (pc' := 268) (flt (show ¬ ((1 : Int32) < v46) from fun q => hc265 (Int32.lt_iff_toInt_lt.mp q))).1 rfl ?_
              refine g_iconst Xj262 hx hby at_268 (pc' := 269) rfl (z := (1 : Int32)) rfl ?_
              refine g_iload Xj262 hx hby at_269 (pc' := 271) rfl rfl ?_
              refine g_iload Xj262 hx hby at_271 (pc' := 273) rfl rfl ?_
              refine Go.callS Xj262 hx hZ (y := (⟨"com/example/edgewise/edgewise/EdgeSlotsNextLivePinLaw", "live", "(III)Z"⟩ : MethodName)) hown (wi hw 29 rfl) (wi hw 30 rfl) (wi hw 31 rfl) (wi hw 32 rfl) (by decide) ej262 (argsL := [(.int (1 : Int32)), (.int (1 : Int32)), (.int v45)]) (rest := []) (W := 0) (rm_live l Z a0 hw (1 : Int32) (1 : Int32) v45 hj160 n0 zj160 ) (hb hby at_273) (by rw [hml]; rfl) rfl pd_aIIIzZ rfl rfl (by decide) (by decide) (by decide) (by decide) ?_
              intro v51 T51 L51 X51 hQ51
              obtain ⟨rfl, Nq51, hh51⟩ := hQ51
              have N51 := Fr.app Nj262 Nq51
              show Go p.tables e below s _ _ _ (T51.setTop (mkF m 276 #[.val (.int p1), .val (.int p2), .val (.int p3), .val (.int p4), .val (.int p5), .val (.int p6), .val (.int (1 : Int32)), .val (.int v45), .val (.int v46), .val (.int v47), .val (.int v48), .val (.int fl), .val (.ref oa), .val (.int ee2)] [(.int (own_live (1 : Int32) (1 : Int32) v45))]))
              by_cases hc276 : (own_live (1 : Int32) (1 : Int32) v45).toInt = (0 : Int)
              · refine g_ifYes X51 hx hby at_276 (pc' := 282) (teq (show (own_live (1 : Int32) (1 : Int32) v45) = (0 : Int32) from Int32.toInt_inj.mp hc276)).1 (by decide) (by decide) ?_
                exact J282 (T51, _, ee2) ⟨X51.more (by decide) (by decide), hh51, N51, (show ee2 = own_ei 1 (1 : Int32) v46 (1 : Int32) v45 ee2 from (by unfold own_ei; first | (exfalso; omega) | (rw [if_pos (by omega)]) | (rw [if_neg (by omega)])))⟩
              · refine g_ifNo X51 hx hby at_276 (pc' := 279) (feq (show ¬ ((own_live (1 : Int32) (1 : Int32) v45) = (0 : Int32)) from fun q => hc276 (congrArg Int32.toInt q))).1 rfl ?_
                refine g_iconst X51 hx hby at_279 (pc' := 280) rfl (z := (1 : Int32)) rfl ?_
                refine g_istore X51 hx hby at_280 (pc' := 282) rfl (L' := #[.val (.int p1), .val (.int p2), .val (.int p3), .val (.int p4), .val (.int p5), .val (.int p6), .val (.int (1 : Int32)), .val (.int v45), .val (.int v46), .val (.int v47), .val (.int v48), .val (.int fl), .val (.ref oa), .val (.int (1 : Int32))]) rfl ?_
                exact J282 (T51, _, (1 : Int32)) ⟨X51.more (by decide) (by decide), hh51, N51, (show (1 : Int32) = own_ei 1 (1 : Int32) v46 (1 : Int32) v45 ee2 from (by unfold own_ei; first | (exfalso; omega) | (rw [if_pos (by omega)]) | (rw [if_neg (by omega)])))⟩
          intro J262
          refine g_iconst Xj242 hx hby at_242 (pc' := 243) rfl (z := (2 : Int32)) rfl ?_
          refine g_iload Xj242 hx hby at_243 (pc' := 245) rfl rfl ?_
          by_cases hc245 : (2 : Int) < v46.toInt
          · refine g_icmpYes Xj242 hx hby at_245 (pc' := 262) (tlt (show (2 : Int32) < v46 from Int32.lt_iff_toInt_lt.mpr hc245)).1 (by decide) (by decide) ?_
            exact J262 (Tj242, _, ee3) ⟨Xj242.more (by decide) (by decide), ej242, Nj242, (show ee3 = own_ei 2 (2 : Int32) v46 (1 : Int32) v45 ee3 from (by unfold own_ei; first | (exfalso; omega) | (rw [if_pos (by omega)]) | (rw [if_neg (by omega)])))⟩
          · refine g_icmpNo Xj242 hx hby at_245 (pc' := 248) (flt (show ¬ ((2 : Int32) < v46) from fun q => hc245 (Int32.lt_iff_toInt_lt.mp q))).1 rfl ?_
            refine g_iconst Xj242 hx hby at_248 (pc' := 249) rfl (z := (2 : Int32)) rfl ?_
            refine g_iload Xj242 hx hby at_249 (pc' := 251) rfl rfl ?_
            refine g_iload Xj242 hx hby at_251 (pc' := 253) rfl rfl ?_
            refine Go.callS Xj242 hx hZ (y := (⟨"com/example/edgewise/edgewise/EdgeSlotsNextLivePinLaw", "live", "(III)Z"⟩ : MethodName)) hown (wi hw 29 rfl) (wi hw 30 rfl) (wi hw 31 rfl) (wi hw 32 rfl) (by decide) ej242 (argsL := [(.int (2 : Int32)), (.int (1 : Int32)), (.int v45)]) (rest := []) (W := 0) (rm_live l Z a0 hw (2 : Int32) (1 : Int32) v45 hj160 n0 zj160 ) (hb hby at_253) (by rw [hml]; rfl) rfl pd_aIIIzZ rfl rfl (by decide) (by decide) (by decide) (by decide) ?_
            intro v52 T52 L52 X52 hQ52
            obtain ⟨rfl, Nq52, hh52⟩ := hQ52
            have N52 := Fr.app Nj242 Nq52
            show Go p.tables e below s _ _ _ (T52.setTop (mkF m 256 #[.val (.int p1), .val (.int p2), .val (.int p3), .val (.int p4), .val (.int p5), .val (.int p6), .val (.int (1 : Int32)), .val (.int v45), .val (.int v46), .val (.int v47), .val (.int v48), .val (.int fl), .val (.ref oa), .val (.int ee3)] [(.int (own_live (2 : Int32) (1 : Int32) v45))]))
            by_cases hc256 : (own_live (2 : Int32) (1 : Int32) v45).toInt = (0 : Int)
            · refine g_ifYes X52 hx hby at_256 (pc' := 262) (teq (show (own_live (2 : Int32) (1 : Int32) v45) = (0 : Int32) from Int32.toInt_inj.mp hc256)).1 (by decide) (by decide) ?_
              exact J262 (T52, _, ee3) ⟨X52.more (by decide) (by decide), hh52, N52, (show ee3 = own_ei 2 (2 : Int32) v46 (1 : Int32) v45 ee3 from (by unfold own_ei; first | (exfalso; omega) | (rw [if_pos (by omega)]) | (rw [if_neg (by omega)])))⟩
            · refine g_ifNo X52 hx hby at_256 (pc' := 259) (feq (show ¬ ((own_live (2 : Int32) (1 : Int32) v45) = (0 : Int32)) from fun q => hc256 (congrArg Int32.toInt q))).1 rfl ?_
              refine g_iconst X52 hx hby at_259 (pc' := 260) rfl (z := (2 : Int32)) rfl ?_
              refine g_istore X52 hx hby at_260 (pc' := 262) rfl (L' := #[.val (.int p1), .val (.int p2), .val (.int p3), .val (.int p4), .val (.int p5), .val (.int p6), .val (.int (1 : Int32)), .val (.int v45), .val (.int v46), .val (.int v47), .val (.int v48), .val (.int fl), .val (.ref oa), .val (.int (2 : Int32))]) rfl ?_
              exact J262 (T52, _, (2 : Int32)) ⟨X52.more (by decide) (by decide), hh52, N52, (show (2 : Int32) = own_ei 2 (2 : Int32) v46 (1 : Int32) v45 ee3 from (by unfold own_ei; first | (exfalso; omega) | (rw [if_pos (by omega)]) | (rw [if_neg (by omega)])))⟩
        intro J242
        refine g_iconst Xj160 hx hby at_222 (pc' := 223) rfl (z := (3 : Int32)) rfl ?_
        refine g_iload Xj160 hx hby at_223 (pc' := 225) rfl rfl ?_
        by_cases hc225 : (3 : Int) < v46.toInt
        · refine g_icmpYes Xj160 hx hby at_225 (pc' := 242) (tlt (show (3 : Int32) < v46 from Int32.lt_iff_toInt_lt.mpr hc225)).1 (by decide) (by decide) ?_
          exact J242 (Tj160, _, (1 : Int32)) ⟨Xj160.more (by decide) (by decide), ej160, Nj160, (show (1 : Int32) = own_ei 3 (3 : Int32) v46 (1 : Int32) v45 (1 : Int32) from (by unfold own_ei; first | (exfalso; omega) | (rw [if_pos (by omega)]) | (rw [if_neg (by omega)])))⟩
        · refine g_icmpNo Xj160 hx hby at_225 (pc' := 228) (flt (show ¬ ((3 : Int32) < v46) from fun q => hc225 (Int32.lt_iff_toInt_lt.mp q))).1 rfl ?_
          refine g_iconst Xj160 hx hby at_228 (pc' := 229) rfl (z := (3 : Int32)) rfl ?_
          refine g_iload Xj160 hx hby at_229 (pc' := 231) rfl rfl ?_
          refine g_iload Xj160 hx hby at_231 (pc' := 233) rfl rfl ?_
          refine Go.callS Xj160 hx hZ (y := (⟨"com/example/edgewise/edgewise/EdgeSlotsNextLivePinLaw", "live", "(III)Z"⟩ : MethodName)) hown (wi hw 29 rfl) (wi hw 30 rfl) (wi hw 31 rfl) (wi hw 32 rfl) (by decide) ej160 (argsL := [(.int (3 : Int32)), (.int (1 : Int32)), (.int v45)]) (rest := []) (W := 0) (rm_live l Z a0 hw (3 : Int32) (1 : Int32) v45 hj160 n0 zj160 ) (hb hby at_233) (by rw [hml]; rfl) rfl pd_aIIIzZ rfl rfl (by decide) (by decide) (by decide) (by decide) ?_
          intro v53 T53 L53 X53 hQ53
          obtain ⟨rfl, Nq53, hh53⟩ := hQ53
          have N53 := Fr.app Nj160 Nq53
          show Go p.tables e below s _ _ _ (T53.setTop (mkF m 236 #[.val (.int p1), .val (.int p2), .val (.int p3), .val (.int p4), .val (.int p5), .val (.int p6), .val (.int (1 : Int32)), .val (.int v45), .val (.int v46), .val (.int v47), .val (.int v48), .val (.int fl), .val (.ref oa), .val (.int (1 : Int32))] [(.int (own_live (3 : Int32) (1 : Int32) v45))]))
          by_cases hc236 : (own_live (3 : Int32) (1 : Int32) v45).toInt = (0 : Int)
          · refine g_ifYes X53 hx hby at_236 (pc' := 242) (teq (show (own_live (3 : Int32) (1 : Int32) v45) = (0 : Int32) from Int32.toInt_inj.mp hc236)).1 (by decide) (by decide) ?_
            exact J242 (T53, _, (1 : Int32)) ⟨X53.more (by decide) (by decide), hh53, N53, (show (1 : Int32) = own_ei 3 (3 : Int32) v46 (1 : Int32) v45 (1 : Int32) from (by unfold own_ei; first | (exfalso; omega) | (rw [if_pos (by omega)]) | (rw [if_neg (by omega)])))⟩
          · refine g_ifNo X53 hx hby at_236 (pc' := 239) (feq (show ¬ ((own_live (3 : Int32) (1 : Int32) v45) = (0 : Int32)) from fun q => hc236 (congrArg Int32.toInt q))).1 rfl ?_
            refine g_iconst X53 hx hby at_239 (pc' := 240) rfl (z := (3 : Int32)) rfl ?_
            refine g_istore X53 hx hby at_240 (pc' := 242) rfl (L' := #[.val (.int p1), .val (.int p2), .val (.int p3), .val (.int p4), .val (.int p5), .val (.int p6), .val (.int (1 : Int32)), .val (.int v45), .val (.int v46), .val (.int v47), .val (.int v48), .val (.int fl), .val (.ref oa), .val (.int (3 : Int32))]) rfl ?_
            exact J242 (T53, _, (3 : Int32)) ⟨X53.more (by decide) (by decide), hh53, N53, (show (3 : Int32) = own_ei 3 (3 : Int32) v46 (1 : Int32) v45 (1 : Int32) from (by unfold own_ei; first | (exfalso; omega) | (rw [if_pos (by omega)]) | (rw [if_neg (by omega)])))⟩
      intro J160
      refine g_iload Xj142 hx hby at_147 (pc' := 149) rfl rfl ?_
      refine g_iconst Xj142 hx hby at_149 (pc' := 150) rfl (z := (1 : Int32)) rfl ?_
      refine g_iand Xj142 hx hby at_150 (pc' := 151) rfl rfl ?_
      by_cases hc151 : (v45 &&& (1 : Int32)).toInt = (0 : Int)
      · refine g_ifYes Xj142 hx hby at_151 (pc' := 160) (teq (show (v45 &&& (1 : Int32)) = (0 : Int32) from Int32.toInt_inj.mp hc151)).1 (by decide) (by decide) ?_
        exact J160 (Tj142, _, hj142, (upI (fun _ => (0 : Int32)) 0 v47), (upI (fun _ => (0 : Int32)) 0 v48), (1 : Int32)) ⟨Xj142.more (by decide) (by decide), ej142, Nj142, zj142, fj142_0, fj142_1, fj142_2, fj142_3, fj142_4, fj142_5, fj142_6, (show (upI (fun _ => (0 : Int32)) 0 v47) = own_rm (upI (fun _ => (0 : Int32)) 0 v47) v45 (1 : Int32) 0 from (by unfold own_rm; rw [if_pos hc151]))⟩
      · refine g_ifNo Xj142 hx hby at_151 (pc' := 154) (feq (show ¬ ((v45 &&& (1 : Int32)) = (0 : Int32)) from fun q => hc151 (congrArg Int32.toInt q))).1 rfl ?_
        refine g_aload Xj142 hx hby at_154 (pc' := 156) rfl rfl rfl ?_
        refine g_iconst Xj142 hx hby at_156 (pc' := 157) rfl (z := (0 : Int32)) rfl ?_
        refine Go.callV Xj142 hx hZ (y := (⟨"com/example/edgewise/edgewise/EdgeSlots", "remove", "(I)V"⟩ : MethodName)) (z := (⟨"com/example/edgewise/edgewise/EdgeSlots", "remove", "(I)V"⟩ : MethodName)) hown (wi hw 85 rfl) (wi hw 86 rfl) (notFace_of_selects (args := #[]) (mvT hZ (wi hw 88 rfl))) (wi hw 88 rfl) (wi hw 87 rfl) (wi hw 3 rfl) (wi hw 89 rfl) (by decide) ej142 (a := oa) (argsL := [(.int (0 : Int32))]) (rest := []) (W := 0) fj142_0 (rm_remove4 l Z a0 hw oa (0 : Int32) xa xb (upI (fun _ => (0 : Int32)) 0 v47) (upI (fun _ => (0 : Int32)) 0 v48) (1 : Int32) (1 : Int32) 0 hj142 n0 zj142 fj142_0 fj142_1 fj142_2 fj142_5 fj142_6 fj142_3 fj142_4 ne1 ne2 ne3 ge1 ge2 ge3 rfl (by decide)) (hb hby at_157) (by rw [hml]; rfl) rfl pd_aIzV rfl rfl (by decide) (by decide) (by decide) (by decide) ?_
        intro v54 T54 L54 X54 hQ54
        obtain ⟨h54, e54⟩ : ∃ z, T54.heap = z := ⟨_, rfl⟩
        rw [e54] at hQ54
        obtain ⟨rfl, Nq54, Kq54, Fq0_54, Fq1_54, Fq2_54, Fq3_54, Fq4_54, Fq5_54⟩ := hQ54
        have N54 := Fr.app Nj142 Nq54
        have Fq5_54 : Fld Z h54 oa "com/example/edgewise/edgewise/EdgeSlots" "count" "I" (.int (0 : Int32)) := Fq5_54
        show Go p.tables e below s _ _ _ (T54.setTop (mkF m 160 #[.val (.int p1), .val (.int p2), .val (.int p3), .val (.int p4), .val (.int p5), .val (.int p6), .val (.int (1 : Int32)), .val (.int v45), .val (.int v46), .val (.int v47), .val (.int v48), .val (.int fl), .val (.ref oa), .unset] []))
        have f55 := fj142_0.keep Kq54
        exact J160 (T54, _, h54, (upI (upI (fun _ => (0 : Int32)) 0 v47) 0 (-1 : Int32)), (upI (upI (fun _ => (0 : Int32)) 0 v48) 0 (-1 : Int32)), (0 : Int32)) ⟨X54.more (by decide) (by decide), e54, N54, (Nat.le_trans zj142 Kq54.1), f55, Fq0_54, Fq1_54, Fq4_54, Fq5_54, Fq2_54, Fq3_54, (show (upI (upI (fun _ => (0 : Int32)) 0 v47) 0 (-1 : Int32)) = own_rm (upI (fun _ => (0 : Int32)) 0 v47) v45 (1 : Int32) 0 from (by unfold own_rm; rw [if_neg hc151]))⟩
    intro J142
    refine g_iload X0 hx hby at_38 (pc' := 40) rfl rfl ?_
    refine g_iconst X0 hx hby at_40 (pc' := 41) rfl (z := (1 : Int32)) rfl ?_
    refine g_iand X0 hx hby at_41 (pc' := 42) rfl rfl ?_
    by_cases hc42 : (p6 &&& (1 : Int32)).toInt = (0 : Int)
    · refine g_ifYes X0 hx hby at_42 (pc' := 49) (teq (show (p6 &&& (1 : Int32)) = (0 : Int32) from Int32.toInt_inj.mp hc42)).1 (by decide) (by decide) ?_
      refine g_iconst X0 hx hby at_49 (pc' := 50) rfl (z := (0 : Int32)) rfl ?_
      refine g_istore X0 hx hby at_50 (pc' := 52) rfl (L' := #[.val (.int p1), .val (.int p2), .val (.int p3), .val (.int p4), .val (.int p5), .val (.int p6), .val (.int (1 : Int32)), .val (.int v45), .val (.int v46), .val (.int v47), .val (.int v48), .val (.int (0 : Int32)), .unset, .unset]) rfl ?_
      have hk0 : True := trivial
      refine g_new X0 hx hby hZ hown (wi hw 1 rfl) (wi hw 2 rfl) (wi hw 3 rfl) e0 at_52 (pc' := 55) rfl (by decide) (by decide) ?_
      intro T56 h56 b56 X56 e56 E56 hb56 A56 D56
      have g57 : n0 ≤ b56 := by rw [hb56]; exact Z0
      have F58 : Fld Z h56 b56 "com/example/edgewise/edgewise/EdgeSlots" "sources" "[I" .null := D56 (Or.inl (wi hw 12 rfl)) (ty := (.array .int)) (by decide)
      have F59 : Fld Z h56 b56 "com/example/edgewise/edgewise/EdgeSlots" "targets" "[I" .null := D56 (Or.inl (wi hw 14 rfl)) (ty := (.array .int)) (by decide)
      have F60 : Fld Z h56 b56 "com/example/edgewise/edgewise/EdgeSlots" "sourcePositions" "[I" .null := D56 (Or.inl (wi hw 16 rfl)) (ty := (.array .int)) (by decide)
      have F61 : Fld Z h56 b56 "com/example/edgewise/edgewise/EdgeSlots" "targetPositions" "[I" .null := D56 (Or.inl (wi hw 18 rfl)) (ty := (.array .int)) (by decide)
      have F62 : Fld Z h56 b56 "com/example/edgewise/edgewise/EdgeSlots" "weights" "[D" .null := D56 (Or.inl (wi hw 21 rfl)) (ty := (.array .double)) (by decide)
      have F63 : Fld Z h56 b56 "com/example/edgewise/edgewise/EdgeSlots" "keys" "[I" .null := D56 (Or.inl (wi hw 23 rfl)) (ty := (.array .int)) (by decide)
      have F64 : Fld Z h56 b56 "com/example/edgewise/edgewise/EdgeSlots" "keptNumbers" "[J" .null := D56 (Or.inl (wi hw 26 rfl)) (ty := (.array .long)) (by decide)
      have F65 : Fld Z h56 b56 "com/example/edgewise/edgewise/EdgeSlots" "keyed" "Z" (.int (0 : Int32)) := D56 (Or.inr (wi hw 28 rfl)) (ty := .boolean) (by decide)
      have F66 : Fld Z h56 b56 "com/example/edgewise/edgewise/EdgeSlots" "bound" "I" (.int (0 : Int32)) := D56 (Or.inl (wi hw 39 rfl)) (ty := .int) (by decide)
      have F67 : Fld Z h56 b56 "com/example/edgewise/edgewise/EdgeSlots" "count" "I" (.int (0 : Int32)) := D56 (Or.inl (wi hw 79 rfl)) (ty := .int) (by decide)
      have F68 : Fld Z h56 b56 "com/example/edgewise/edgewise/EdgeSlots" "nextNumber" "J" (.long (0 : Int64)) := D56 (Or.inl (wi hw 81 rfl)) (ty := .long) (by decide)
      refine g_dup X56 hx hby at_55 (pc' := 56) rfl rfl ?_
      refine g_iload X56 hx hby at_56 (pc' := 58) rfl rfl ?_
      refine Go.callI X56 hx hZ (y := (⟨"com/example/edgewise/edgewise/EdgeSlots", "<init>", "(Z)V"⟩ : MethodName)) hown rfl (wi hw 4 rfl) (wi hw 5 rfl) (wi hw 3 rfl) (wi hw 6 rfl) (by decide) e56 (a := b56) (argsL := [(.int (0 : Int32))]) (rest := [(.ref b56)]) (W := 1) (rm_init0 l Z a0 hw b56 h56 n0 (Nat.le_trans Z0 E56.1) A56 F58 F59 F60 F61 F62 F63 F64 F65 F66 F67 F68 g57) (hb hby at_58) (by rw [hml]; rfl) rfl pd_aZzV rfl rfl (by decide) (by decide) (by decide) (by decide) ?_
      intro v69 T69 L69 X69 hQ69
      obtain ⟨h69, e69⟩ : ∃ z, T69.heap = z := ⟨_, rfl⟩
      rw [e69] at hQ69
      obtain ⟨b1_69, b2_69, b3_69, b4_69, b5_69, b6_69, b7_69, rfl, Nq69, Kq69, gqb1_69, sqb1_69, gqb2_69, sqb2_69, gqb3_69, sqb3_69, gqb4_69, sqb4_69, gqb5_69, sqb5_69, gqb6_69, sqb6_69, gqb7_69, sqb7_69, nqb1_b2_69, nqb1_b3_69, nqb1_b4_69, nqb1_b5_69, nqb1_b6_69, nqb1_b7_69, nqb2_b3_69, nqb2_b4_69, nqb2_b5_69, nqb2_b6_69, nqb2_b7_69, nqb3_b4_69, nqb3_b5_69, nqb3_b6_69, nqb3_b7_69, nqb4_b5_69, nqb4_b6_69, nqb4_b7_69, nqb5_b6_69, nqb5_b7_69, nqb6_b7_69, Fq0_69, Fq1_69, Fq2_69, Fq3_69, Fq4_69, Fq5_69, Fq6_69, Fq7_69, Fq8_69, Fq9_69, Fq10_69, Fq11_69, Fq12_69, Fq13_69, Fq14_69, Fq15_69, Fq16_69, Fq17_69⟩ := hQ69
      have N69 := Fr.app N0 Nq69
      show Go p.tables e below s _ _ _ (T69.setTop (mkF m 61 #[.val (.int p1), .val (.int p2), .val (.int p3), .val (.int p4), .val (.int p5), .val (.int p6), .val (.int (1 : Int32)), .val (.int v45), .val (.int v46), .val (.int v47), .val (.int v48), .val (.int (0 : Int32)), .unset, .unset] [(.ref b56)]))
      refine g_astore X69 hx hby at_61 (pc' := 63) rfl rfl (L' := #[.val (.int p1), .val (.int p2), .val (.int p3), .val (.int p4), .val (.int p5), .val (.int p6), .val (.int (1 : Int32)), .val (.int v45), .val (.int v46), .val (.int v47), .val (.int v48), .val (.int (0 : Int32)), .val (.ref b56), .unset]) rfl ?_
      refine g_iload X69 hx hby at_63 (pc' := 65) rfl rfl ?_
      have hc65 : (0 : Int) < (1 : Int) := by decide
      refine g_ifNo X69 hx hby at_65 (pc' := 68) (tlt (show (0 : Int32) < (1 : Int32) from Int32.lt_iff_toInt_lt.mpr hc65)).2.2.2 rfl ?_
      refine g_aload X69 hx hby at_68 (pc' := 70) rfl rfl rfl ?_
      refine g_iload X69 hx hby at_70 (pc' := 72) rfl rfl ?_
      refine g_iload X69 hx hby at_72 (pc' := 74) rfl rfl ?_
      refine Go.of (fun _ k => XS.dconst1 X69.here hx rfl (hb hby at_74) (v := FP.dconst1) rfl k) ?_
      show Go p.tables e below s _ _ _ (T69.setTop (mkF m 75 #[.val (.int p1), .val (.int p2), .val (.int p3), .val (.int p4), .val (.int p5), .val (.int p6), .val (.int (1 : Int32)), .val (.int v45), .val (.int v46), .val (.int v47), .val (.int v48), .val (.int (0 : Int32)), .val (.ref b56), .unset] [(.double FP.dconst1), (.int v48), (.int v47), (.ref b56)]))
      refine g_iload X69 hx hby at_75 (pc' := 77) rfl rfl ?_
      have f71 := A56.keep Kq69
      have ne72 : b56 ≠ b1_69 := Nat.ne_of_lt (Nat.lt_of_lt_of_le F68.lt sqb1_69)
      have ne73 : b56 ≠ b2_69 := Nat.ne_of_lt (Nat.lt_of_lt_of_le F68.lt sqb2_69)
      have ne74 : b56 ≠ b3_69 := Nat.ne_of_lt (Nat.lt_of_lt_of_le F68.lt sqb3_69)
      have ne75 : b56 ≠ b4_69 := Nat.ne_of_lt (Nat.lt_of_lt_of_le F68.lt sqb4_69)
      have ne76 : b56 ≠ b5_69 := Nat.ne_of_lt (Nat.lt_of_lt_of_le F68.lt sqb5_69)
      have ne77 : b56 ≠ b6_69 := Nat.ne_of_lt (Nat.lt_of_lt_of_le F68.lt sqb6_69)
      refine Go.callV X69 hx hZ (y := (⟨"com/example/edgewise/edgewise/EdgeSlots", "add", "(IIDI)I"⟩ : MethodName)) (z := (⟨"com/example/edgewise/edgewise/EdgeSlots", "add", "(IIDI)I"⟩ : MethodName)) hown (wi hw 40 rfl) (wi hw 41 rfl) (notFace_of_selects (args := #[]) (mvT hZ (wi hw 43 rfl))) (wi hw 43 rfl) (wi hw 42 rfl) (wi hw 3 rfl) (wi hw 44 rfl) (by decide) e69 (a := b56) (argsL := [(.int v47), (.int v48), (.double FP.dconst1), (.int v47)]) (rest := []) (W := 0) f71 (rm_addA0 l Z a0 hw b56 v47 v48 FP.dconst1 v47 b1_69 b2_69 b3_69 b4_69 b5_69 b6_69 b7_69 (fun _ => (0 : Int32)) (fun _ => (0 : Int32)) (fun _ => (0 : Int32)) (fun _ => (0 : Int32)) (fun _ => (0 : UInt64)) (fun _ => (0 : Int32)) (0 : Int32) (0 : Int64) h69 n0 (Nat.le_trans (Nat.le_trans Z0 E56.1) Kq69.1) f71 Fq7_69 Fq6_69 Fq0_69 Fq1_69 Fq2_69 Fq3_69 Fq4_69 Fq5_69 Fq11_69 Fq12_69 Fq13_69 Fq14_69 Fq15_69 Fq16_69 Fq8_69 Fq9_69 Fq10_69 (Ne.symm ne72) (Ne.symm ne73) (Ne.symm ne74) (Ne.symm ne75) (Ne.symm ne76) (Ne.symm ne77) g57) (hb hby at_77) (by rw [hml]; rfl) rfl pd_aIIDIzI rfl rfl (by decide) (by decide) (by decide) (by decide) ?_
      intro v70 T70 L70 X70 hQ70
      obtain ⟨h70, e70⟩ : ∃ z, T70.heap = z := ⟨_, rfl⟩
      rw [e70] at hQ70
      obtain ⟨b1_70, b2_70, b3_70, b4_70, b5_70, rfl, Nq70, Kq70, gqb1_70, sqb1_70, gqb2_70, sqb2_70, gqb3_70, sqb3_70, gqb4_70, sqb4_70, gqb5_70, sqb5_70, nqb1_b2_70, nqb1_b3_70, nqb1_b4_70, nqb1_b5_70, nqb2_b3_70, nqb2_b4_70, nqb2_b5_70, nqb3_b4_70, nqb3_b5_70, nqb4_b5_70, Fq0_70, Fq1_70, Fq2_70, Fq3_70, Fq4_70, Fq5_70, Fq6_70, Fq7_70, Fq8_70, Fq9_70, Fq10_70, Fq11_70, Fq12_70, Fq13_70, Fq14_70, Fq15_70⟩ := hQ70
      have N70 := Fr.app N69 Nq70
      have Fq9_70 : Fld Z h70 b56 "com/example/edgewise/edgewise/EdgeSlots" "count" "I" (.int (1 : Int32)) := Fq9_70
      have Fq10_70 : Fld Z h70 b56 "com/example/edgewise/edgewise/EdgeSlots" "nextNumber" "J" (.long (1 : Int64)) := Fq10_70
      show Go p.tables e below s _ _ _ (T70.setTop (mkF m 80 #[.val (.int p1), .val (.int p2), .val (.int p3), .val (.int p4), .val (.int p5), .val (.int p6), .val (.int (1 : Int32)), .val (.int v45), .val (.int v46), .val (.int v47), .val (.int v48), .val (.int (0 : Int32)), .val (.ref b56), .unset] [(.int (0 : Int32))]))
      refine g_pop X70 hx hby at_80 (pc' := 81) rfl rfl ?_
      refine g_iload X70 hx hby at_81 (pc' := 83) rfl rfl ?_
      refine g_iconst X70 hx hby at_83 (pc' := 84) rfl (z := (1 : Int32)) rfl ?_
      have hc84 : ¬ ((1 : Int) < (1 : Int)) := by decide
      refine g_icmpYes X70 hx hby at_84 (pc' := 102) (flt (show ¬ ((1 : Int32) < (1 : Int32)) from fun q => hc84 (Int32.lt_iff_toInt_lt.mp q))).2.2.2 (by decide) (by decide) ?_
      refine g_iload X70 hx hby at_102 (pc' := 104) rfl rfl ?_
      refine g_iconst X70 hx hby at_104 (pc' := 105) rfl (z := (2 : Int32)) rfl ?_
      have hc105 : ¬ ((2 : Int) < (1 : Int)) := by decide
      refine g_icmpYes X70 hx hby at_105 (pc' := 122) (flt (show ¬ ((2 : Int32) < (1 : Int32)) from fun q => hc105 (Int32.lt_iff_toInt_lt.mp q))).2.2.2 (by decide) (by decide) ?_
      refine g_iload X70 hx hby at_122 (pc' := 124) rfl rfl ?_
      refine g_iconst X70 hx hby at_124 (pc' := 125) rfl (z := (3 : Int32)) rfl ?_
      have hc125 : ¬ ((3 : Int) < (1 : Int)) := by decide
      refine g_icmpYes X70 hx hby at_125 (pc' := 142) (flt (show ¬ ((3 : Int32) < (1 : Int32)) from fun q => hc125 (Int32.lt_iff_toInt_lt.mp q))).2.2.2 (by decide) (by decide) ?_
      have ne78 : b56 ≠ b1_70 := Nat.ne_of_lt (Nat.lt_of_lt_of_le f71.lt sqb1_70)
      have ne79 : b56 ≠ b2_70 := Nat.ne_of_lt (Nat.lt_of_lt_of_le f71.lt sqb2_70)
      have f80 := f71.keep Kq70
      exact J142 (T70, _, h70, (0 : Int32), b56, b1_70, b2_70) ⟨X70.more (by decide) (by decide), e70, N70, (Nat.le_trans (Nat.le_trans (Nat.le_trans Z0 E56.1) Kq69.1) Kq70.1), f80, Fq2_70, Fq3_70, Fq8_70, Fq9_70, Fq11_70, Fq12_70, (show b1_70 ≠ b56 ∧ b2_70 ≠ b56 ∧ b1_70 ≠ b2_70 ∧ n0 ≤ b56 ∧ n0 ≤ b1_70 ∧ n0 ≤ b2_70 from ⟨(Ne.symm ne78), (Ne.symm ne79), nqb1_b2_70, g57, gqb1_70, gqb2_70⟩)⟩
    · refine g_ifNo X0 hx hby at_42 (pc' := 45) (feq (show ¬ ((p6 &&& (1 : Int32)) = (0 : Int32)) from fun q => hc42 (congrArg Int32.toInt q))).1 rfl ?_
      refine g_iconst X0 hx hby at_45 (pc' := 46) rfl (z := (1 : Int32)) rfl ?_
      refine g_goto X0 hx hby at_46 (pc' := 50) (by decide) (by decide) ?_
      refine g_istore X0 hx hby at_50 (pc' := 52) rfl (L' := #[.val (.int p1), .val (.int p2), .val (.int p3), .val (.int p4), .val (.int p5), .val (.int p6), .val (.int (1 : Int32)), .val (.int v45), .val (.int v46), .val (.int v47), .val (.int v48), .val (.int (1 : Int32)), .unset, .unset]) rfl ?_
      have hk0 : True := trivial
      refine g_new X0 hx hby hZ hown (wi hw 1 rfl) (wi hw 2 rfl) (wi hw 3 rfl) e0 at_52 (pc' := 55) rfl (by decide) (by decide) ?_
      intro T81 h81 b81 X81 e81 E81 hb81 A81 D81
      have g82 : n0 ≤ b81 := by rw [hb81]; exact Z0
      have F83 : Fld Z h81 b81 "com/example/edgewise/edgewise/EdgeSlots" "sources" "[I" .null := D81 (Or.inl (wi hw 12 rfl)) (ty := (.array .int)) (by decide)
      have F84 : Fld Z h81 b81 "com/example/edgewise/edgewise/EdgeSlots" "targets" "[I" .null := D81 (Or.inl (wi hw 14 rfl)) (ty := (.array .int)) (by decide)
      have F85 : Fld Z h81 b81 "com/example/edgewise/edgewise/EdgeSlots" "sourcePositions" "[I" .null := D81 (Or.inl (wi hw 16 rfl)) (ty := (.array .int)) (by decide)
      have F86 : Fld Z h81 b81 "com/example/edgewise/edgewise/EdgeSlots" "targetPositions" "[I" .null := D81 (Or.inl (wi hw 18 rfl)) (ty := (.array .int)) (by decide)
      have F87 : Fld Z h81 b81 "com/example/edgewise/edgewise/EdgeSlots" "weights" "[D" .null := D81 (Or.inl (wi hw 21 rfl)) (ty := (.array .double)) (by decide)
      have F88 : Fld Z h81 b81 "com/example/edgewise/edgewise/EdgeSlots" "keys" "[I" .null := D81 (Or.inl (wi hw 23 rfl)) (ty := (.array .int)) (by decide)
      have F89 : Fld Z h81 b81 "com/example/edgewise/edgewise/EdgeSlots" "keptNumbers" "[J" .null := D81 (Or.inl (wi hw 26 rfl)) (ty := (.array .long)) (by decide)
      have F90 : Fld Z h81 b81 "com/example/edgewise/edgewise/EdgeSlots" "keyed" "Z" (.int (0 : Int32)) := D81 (Or.inr (wi hw 28 rfl)) (ty := .boolean) (by decide)
      have F91 : Fld Z h81 b81 "com/example/edgewise/edgewise/EdgeSlots" "bound" "I" (.int (0 : Int32)) := D81 (Or.inl (wi hw 39 rfl)) (ty := .int) (by decide)
      have F92 : Fld Z h81 b81 "com/example/edgewise/edgewise/EdgeSlots" "count" "I" (.int (0 : Int32)) := D81 (Or.inl (wi hw 79 rfl)) (ty := .int) (by decide)
      have F93 : Fld Z h81 b81 "com/example/edgewise/edgewise/EdgeSlots" "nextNumber" "J" (.long (0 : Int64)) := D81 (Or.inl (wi hw 81 rfl)) (ty := .long) (by decide)
      refine g_dup X81 hx hby at_55 (pc' := 56) rfl rfl ?_
      refine g_iload X81 hx hby at_56 (pc' := 58) rfl rfl ?_
      refine Go.callI X81 hx hZ (y := (⟨"com/example/edgewise/edgewise/EdgeSlots", "<init>", "(Z)V"⟩ : MethodName)) hown rfl (wi hw 4 rfl) (wi hw 5 rfl) (wi hw 3 rfl) (wi hw 6 rfl) (by decide) e81 (a := b81) (argsL := [(.int (1 : Int32))]) (rest := [(.ref b81)]) (W := 1) (rm_init1 l Z a0 hw b81 h81 n0 (Nat.le_trans Z0 E81.1) A81 F83 F84 F85 F86 F87 F88 F89 F90 F91 F92 F93 g82) (hb hby at_58) (by rw [hml]; rfl) rfl pd_aZzV rfl rfl (by decide) (by decide) (by decide) (by decide) ?_
      intro v94 T94 L94 X94 hQ94
      obtain ⟨h94, e94⟩ : ∃ z, T94.heap = z := ⟨_, rfl⟩
      rw [e94] at hQ94
      obtain ⟨b1_94, b2_94, b3_94, b4_94, b5_94, b6_94, b7_94, rfl, Nq94, Kq94, gqb1_94, sqb1_94, gqb2_94, sqb2_94, gqb3_94, sqb3_94, gqb4_94, sqb4_94, gqb5_94, sqb5_94, gqb6_94, sqb6_94, gqb7_94, sqb7_94, nqb1_b2_94, nqb1_b3_94, nqb1_b4_94, nqb1_b5_94, nqb1_b6_94, nqb1_b7_94, nqb2_b3_94, nqb2_b4_94, nqb2_b5_94, nqb2_b6_94, nqb2_b7_94, nqb3_b4_94, nqb3_b5_94, nqb3_b6_94, nqb3_b7_94, nqb4_b5_94, nqb4_b6_94, nqb4_b7_94, nqb5_b6_94, nqb5_b7_94, nqb6_b7_94, Fq0_94, Fq1_94, Fq2_94, Fq3_94, Fq4_94, Fq5_94, Fq6_94, Fq7_94, Fq8_94, Fq9_94, Fq10_94, Fq11_94, Fq12_94, Fq13_94, Fq14_94, Fq15_94, Fq16_94, Fq17_94⟩ := hQ94
      have N94 := Fr.app N0 Nq94
      show Go p.tables e below s _ _ _ (T94.setTop (mkF m 61 #[.val (.int p1), .val (.int p2), .val (.int p3), .val (.int p4), .val (.int p5), .val (.int p6), .val (.int (1 : Int32)), .val (.int v45), .val (.int v46), .val (.int v47), .val (.int v48), .val (.int (1 : Int32)), .unset, .unset] [(.ref b81)]))
      refine g_astore X94 hx hby at_61 (pc' := 63) rfl rfl (L' := #[.val (.int p1), .val (.int p2), .val (.int p3), .val (.int p4), .val (.int p5), .val (.int p6), .val (.int (1 : Int32)), .val (.int v45), .val (.int v46), .val (.int v47), .val (.int v48), .val (.int (1 : Int32)), .val (.ref b81), .unset]) rfl ?_
      refine g_iload X94 hx hby at_63 (pc' := 65) rfl rfl ?_
      have hc65 : (0 : Int) < (1 : Int) := by decide
      refine g_ifNo X94 hx hby at_65 (pc' := 68) (tlt (show (0 : Int32) < (1 : Int32) from Int32.lt_iff_toInt_lt.mpr hc65)).2.2.2 rfl ?_
      refine g_aload X94 hx hby at_68 (pc' := 70) rfl rfl rfl ?_
      refine g_iload X94 hx hby at_70 (pc' := 72) rfl rfl ?_
      refine g_iload X94 hx hby at_72 (pc' := 74) rfl rfl ?_
      refine Go.of (fun _ k => XS.dconst1 X94.here hx rfl (hb hby at_74) (v := FP.dconst1) rfl k) ?_
      show Go p.tables e below s _ _ _ (T94.setTop (mkF m 75 #[.val (.int p1), .val (.int p2), .val (.int p3), .val (.int p4), .val (.int p5), .val (.int p6), .val (.int (1 : Int32)), .val (.int v45), .val (.int v46), .val (.int v47), .val (.int v48), .val (.int (1 : Int32)), .val (.ref b81), .unset] [(.double FP.dconst1), (.int v48), (.int v47), (.ref b81)]))
      refine g_iload X94 hx hby at_75 (pc' := 77) rfl rfl ?_
      have f96 := A81.keep Kq94
      have ne97 : b81 ≠ b1_94 := Nat.ne_of_lt (Nat.lt_of_lt_of_le F93.lt sqb1_94)
      have ne98 : b81 ≠ b2_94 := Nat.ne_of_lt (Nat.lt_of_lt_of_le F93.lt sqb2_94)
      have ne99 : b81 ≠ b3_94 := Nat.ne_of_lt (Nat.lt_of_lt_of_le F93.lt sqb3_94)
      have ne100 : b81 ≠ b4_94 := Nat.ne_of_lt (Nat.lt_of_lt_of_le F93.lt sqb4_94)
      have ne101 : b81 ≠ b5_94 := Nat.ne_of_lt (Nat.lt_of_lt_of_le F93.lt sqb5_94)
      have ne102 : b81 ≠ b6_94 := Nat.ne_of_lt (Nat.lt_of_lt_of_le F93.lt sqb6_94)
      refine Go.callV X94 hx hZ (y := (⟨"com/example/edgewise/edgewise/EdgeSlots", "add", "(IIDI)I"⟩ : MethodName)) (z := (⟨"com/example/edgewise/edgewise/EdgeSlots", "add", "(IIDI)I"⟩ : MethodName)) hown (wi hw 40 rfl) (wi hw 41 rfl) (notFace_of_selects (args := #[]) (mvT hZ (wi hw 43 rfl))) (wi hw 43 rfl) (wi hw 42 rfl) (wi hw 3 rfl) (wi hw 44 rfl) (by decide) e94 (a := b81) (argsL := [(.int v47), (.int v48), (.double FP.dconst1), (.int v47)]) (rest := []) (W := 0) f96 (rm_addA1 l Z a0 hw b81 v47 v48 FP.dconst1 v47 b1_94 b2_94 b3_94 b4_94 b5_94 b6_94 b7_94 (fun _ => (0 : Int32)) (fun _ => (0 : Int32)) (fun _ => (0 : Int32)) (fun _ => (0 : Int32)) (fun _ => (0 : UInt64)) (fun _ => (0 : Int32)) (0 : Int32) (0 : Int64) h94 n0 (Nat.le_trans (Nat.le_trans Z0 E81.1) Kq94.1) f96 Fq7_94 Fq6_94 Fq0_94 Fq1_94 Fq2_94 Fq3_94 Fq4_94 Fq5_94 Fq11_94 Fq12_94 Fq13_94 Fq14_94 Fq15_94 Fq16_94 Fq8_94 Fq9_94 Fq10_94 (Ne.symm ne97) (Ne.symm ne98) (Ne.symm ne99) (Ne.symm ne100) (Ne.symm ne101) (Ne.symm ne102) g82) (hb hby at_77) (by rw [hml]; rfl) rfl pd_aIIDIzI rfl rfl (by decide) (by decide) (by decide) (by decide) ?_
      intro v95 T95 L95 X95 hQ95
      obtain ⟨h95, e95⟩ : ∃ z, T95.heap = z := ⟨_, rfl⟩
      rw [e95] at hQ95
      obtain ⟨b1_95, b2_95, b3_95, b4_95, b5_95, b6_95, rfl, Nq95, Kq95, gqb1_95, sqb1_95, gqb2_95, sqb2_95, gqb3_95, sqb3_95, gqb4_95, sqb4_95, gqb5_95, sqb5_95, gqb6_95, sqb6_95, nqb1_b2_95, nqb1_b3_95, nqb1_b4_95, nqb1_b5_95, nqb1_b6_95, nqb2_b3_95, nqb2_b4_95, nqb2_b5_95, nqb2_b6_95, nqb3_b4_95, nqb3_b5_95, nqb3_b6_95, nqb4_b5_95, nqb4_b6_95, nqb5_b6_95, Fq0_95, Fq1_95, Fq2_95, Fq3_95, Fq4_95, Fq5_95, Fq6_95, Fq7_95, Fq8_95, Fq9_95, Fq10_95, Fq11_95, Fq12_95, Fq13_95, Fq14_95, Fq15_95, Fq16_95⟩ := hQ95
      have N95 := Fr.app N94 Nq95
      have Fq9_95 : Fld Z h95 b81 "com/example/edgewise/edgewise/EdgeSlots" "count" "I" (.int (1 : Int32)) := Fq9_95
      have Fq10_95 : Fld Z h95 b81 "com/example/edgewise/edgewise/EdgeSlots" "nextNumber" "J" (.long (1 : Int64)) := Fq10_95
      show Go p.tables e below s _ _ _ (T95.setTop (mkF m 80 #[.val (.int p1), .val (.int p2), .val (.int p3), .val (.int p4), .val (.int p5), .val (.int p6), .val (.int (1 : Int32)), .val (.int v45), .val (.int v46), .val (.int v47), .val (.int v48), .val (.int (1 : Int32)), .val (.ref b81), .unset] [(.int (0 : Int32))]))
      refine g_pop X95 hx hby at_80 (pc' := 81) rfl rfl ?_
      refine g_iload X95 hx hby at_81 (pc' := 83) rfl rfl ?_
      refine g_iconst X95 hx hby at_83 (pc' := 84) rfl (z := (1 : Int32)) rfl ?_
      have hc84 : ¬ ((1 : Int) < (1 : Int)) := by decide
      refine g_icmpYes X95 hx hby at_84 (pc' := 102) (flt (show ¬ ((1 : Int32) < (1 : Int32)) from fun q => hc84 (Int32.lt_iff_toInt_lt.mp q))).2.2.2 (by decide) (by decide) ?_
      refine g_iload X95 hx hby at_102 (pc' := 104) rfl rfl ?_
      refine g_iconst X95 hx hby at_104 (pc' := 105) rfl (z := (2 : Int32)) rfl ?_
      have hc105 : ¬ ((2 : Int) < (1 : Int)) := by decide
      refine g_icmpYes X95 hx hby at_105 (pc' := 122) (flt (show ¬ ((2 : Int32) < (1 : Int32)) from fun q => hc105 (Int32.lt_iff_toInt_lt.mp q))).2.2.2 (by decide) (by decide) ?_
      refine g_iload X95 hx hby at_122 (pc' := 124) rfl rfl ?_
      refine g_iconst X95 hx hby at_124 (pc' := 125) rfl (z := (3 : Int32)) rfl ?_
      have hc125 : ¬ ((3 : Int) < (1 : Int)) := by decide
      refine g_icmpYes X95 hx hby at_125 (pc' := 142) (flt (show ¬ ((3 : Int32) < (1 : Int32)) from fun q => hc125 (Int32.lt_iff_toInt_lt.mp q))).2.2.2 (by decide) (by decide) ?_
      have ne103 : b81 ≠ b1_95 := Nat.ne_of_lt (Nat.lt_of_lt_of_le f96.lt sqb1_95)
      have ne104 : b81 ≠ b2_95 := Nat.ne_of_lt (Nat.lt_of_lt_of_le f96.lt sqb2_95)
      have f105 := f96.keep Kq95
      exact J142 (T95, _, h95, (1 : Int32), b81, b1_95, b2_95) ⟨X95.more (by decide) (by decide), e95, N95, (Nat.le_trans (Nat.le_trans (Nat.le_trans Z0 E81.1) Kq94.1) Kq95.1), f105, Fq2_95, Fq3_95, Fq8_95, Fq9_95, Fq11_95, Fq12_95, (show b1_95 ≠ b81 ∧ b2_95 ≠ b81 ∧ b1_95 ≠ b2_95 ∧ n0 ≤ b81 ∧ n0 ≤ b1_95 ∧ n0 ≤ b2_95 from ⟨(Ne.symm ne103), (Ne.symm ne104), nqb1_b2_95, g82, gqb1_95, gqb2_95⟩)⟩
  · show Go p.tables e below s _ _ _ (T0.setTop (mkF m 8 #[.val (.int p1), .val (.int p2), .val (.int p3), .val (.int p4), .val (.int p5), .val (.int p6), .val (.int (2 : Int32)), .unset, .unset, .unset, .unset, .unset, .unset, .unset] []))
    refine g_iloadN X0 hx hby at_8 (pc' := 9) rfl rfl ?_
    refine g_bipush X0 hx hby at_9 (pc' := 11) rfl (z := (15 : Int32)) rfl ?_
    refine g_iand X0 hx hby at_11 (pc' := 12) rfl rfl ?_
    show Go p.tables e below s _ _ _ (T0.setTop (mkF m 12 #[.val (.int p1), .val (.int p2), .val (.int p3), .val (.int p4), .val (.int p5), .val (.int p6), .val (.int (2 : Int32)), .unset, .unset, .unset, .unset, .unset, .unset, .unset] [(.int (p2 &&& (15 : Int32)))]))
    generalize hv106 : (p2 &&& (15 : Int32)) = v106
    refine g_istore X0 hx hby at_12 (pc' := 14) rfl (L' := #[.val (.int p1), .val (.int p2), .val (.int p3), .val (.int p4), .val (.int p5), .val (.int p6), .val (.int (2 : Int32)), .val (.int v106), .unset, .unset, .unset, .unset, .unset, .unset]) rfl ?_
    refine g_iloadN X0 hx hby at_14 (pc' := 15) rfl rfl ?_
    refine g_ldcI X0 hx hby hZ hown (wi hw 0 rfl) at_15 (pc' := 17) rfl ?_
    refine g_iand X0 hx hby at_17 (pc' := 18) rfl rfl ?_
    refine g_iload X0 hx hby at_18 (pc' := 20) rfl rfl ?_
    refine g_iconst X0 hx hby at_20 (pc' := 21) rfl (z := (1 : Int32)) rfl ?_
    refine g_iadd X0 hx hby at_21 (pc' := 22) rfl (z := (3 : Int32)) rfl ?_
    refine g_irem X0 hx hby at_22 (pc' := 23) rfl (by decide) rfl ?_
    show Go p.tables e below s _ _ _ (T0.setTop (mkF m 23 #[.val (.int p1), .val (.int p2), .val (.int p3), .val (.int p4), .val (.int p5), .val (.int p6), .val (.int (2 : Int32)), .val (.int v106), .unset, .unset, .unset, .unset, .unset, .unset] [(.int ((p3 &&& (2147483647 : Int32)) % (3 : Int32)))]))
    generalize hv107 : ((p3 &&& (2147483647 : Int32)) % (3 : Int32)) = v107
    refine g_istore X0 hx hby at_23 (pc' := 25) rfl (L' := #[.val (.int p1), .val (.int p2), .val (.int p3), .val (.int p4), .val (.int p5), .val (.int p6), .val (.int (2 : Int32)), .val (.int v106), .val (.int v107), .unset, .unset, .unset, .unset, .unset]) rfl ?_
    refine g_iloadN X0 hx hby at_25 (pc' := 26) rfl rfl ?_
    refine g_ldcI X0 hx hby hZ hown (wi hw 0 rfl) at_26 (pc' := 28) rfl ?_
    refine g_iand X0 hx hby at_28 (pc' := 29) rfl rfl ?_
    show Go p.tables e below s _ _ _ (T0.setTop (mkF m 29 #[.val (.int p1), .val (.int p2), .val (.int p3), .val (.int p4), .val (.int p5), .val (.int p6), .val (.int (2 : Int32)), .val (.int v106), .val (.int v107), .unset, .unset, .unset, .unset, .unset] [(.int (p4 &&& (2147483647 : Int32)))]))
    generalize hv108 : (p4 &&& (2147483647 : Int32)) = v108
    refine g_istore X0 hx hby at_29 (pc' := 31) rfl (L' := #[.val (.int p1), .val (.int p2), .val (.int p3), .val (.int p4), .val (.int p5), .val (.int p6), .val (.int (2 : Int32)), .val (.int v106), .val (.int v107), .val (.int v108), .unset, .unset, .unset, .unset]) rfl ?_
    refine g_iload X0 hx hby at_31 (pc' := 33) rfl rfl ?_
    refine g_ldcI X0 hx hby hZ hown (wi hw 0 rfl) at_33 (pc' := 35) rfl ?_
    refine g_iand X0 hx hby at_35 (pc' := 36) rfl rfl ?_
    show Go p.tables e below s _ _ _ (T0.setTop (mkF m 36 #[.val (.int p1), .val (.int p2), .val (.int p3), .val (.int p4), .val (.int p5), .val (.int p6), .val (.int (2 : Int32)), .val (.int v106), .val (.int v107), .val (.int v108), .unset, .unset, .unset, .unset] [(.int (p5 &&& (2147483647 : Int32)))]))
    generalize hv109 : (p5 &&& (2147483647 : Int32)) = v109
    refine g_istore X0 hx hby at_36 (pc' := 38) rfl (L' := #[.val (.int p1), .val (.int p2), .val (.int p3), .val (.int p4), .val (.int p5), .val (.int p6), .val (.int (2 : Int32)), .val (.int v106), .val (.int v107), .val (.int v108), .val (.int v109), .unset, .unset, .unset]) rfl ?_
    have hm : 0 ≤ v106.toInt ∧ v106.toInt ≤ 15 := by rw [← hv106]; have : (p2 &&& (15 : Int32)).toInt = p2.toInt % 16 := c_mask _ _ 4 (by decide) (by decide); have : -2147483648 ≤ (p2 &&& (15 : Int32)).toInt ∧ (p2 &&& (15 : Int32)).toInt < 2147483648 := rng32 _; have : -2147483648 ≤ p2.toInt ∧ p2.toInt < 2147483648 := rng32 _; omega
    obtain ⟨ks, hkle, hks⟩ : ∃ ks : Nat, ks ≤ 2 ∧ v107.toInt = (ks : Int) := ⟨v107.toInt.toNat, by rw [← hv107]; have : (0 ≤ (p3 &&& (2147483647 : Int32)).toInt → ((p3 &&& (2147483647 : Int32)) % (3 : Int32)).toInt = (p3 &&& (2147483647 : Int32)).toInt % 3) ∧ ((p3 &&& (2147483647 : Int32)).toInt < 0 → ((p3 &&& (2147483647 : Int32)) % (3 : Int32)).toInt = -((-(p3 &&& (2147483647 : Int32)).toInt) % 3)) := c_irem _ _ 3 rfl; have : -2147483648 ≤ ((p3 &&& (2147483647 : Int32)) % (3 : Int32)).toInt ∧ ((p3 &&& (2147483647 : Int32)) % (3 : Int32)).toInt < 2147483648 := rng32 _; have : (p3 &&& (2147483647 : Int32)).toInt = p3.toInt % 2147483648 := c_mask _ _ 31 (by decide) (by decide); have : -2147483648 ≤ (p3 &&& (2147483647 : Int32)).toInt ∧ (p3 &&& (2147483647 : Int32)).toInt < 2147483648 := rng32 _; have : -2147483648 ≤ p3.toInt ∧ p3.toInt < 2147483648 := rng32 _; omega, by rw [← hv107]; have : (0 ≤ (p3 &&& (2147483647 : Int32)).toInt → ((p3 &&& (2147483647 : Int32)) % (3 : Int32)).toInt = (p3 &&& (2147483647 : Int32)).toInt % 3) ∧ ((p3 &&& (2147483647 : Int32)).toInt < 0 → ((p3 &&& (2147483647 : Int32)) % (3 : Int32)).toInt = -((-(p3 &&& (2147483647 : Int32)).toInt) % 3)) := c_irem _ _ 3 rfl; have : -2147483648 ≤ ((p3 &&& (2147483647 : Int32)) % (3 : Int32)).toInt ∧ ((p3 &&& (2147483647 : Int32)) % (3 : Int32)).toInt < 2147483648 := rng32 _; have : (p3 &&& (2147483647 : Int32)).toInt = p3.toInt % 2147483648 := c_mask _ _ 31 (by decide) (by decide); have : -2147483648 ≤ (p3 &&& (2147483647 : Int32)).toInt ∧ (p3 &&& (2147483647 : Int32)).toInt < 2147483648 := rng32 _; have : -2147483648 ≤ p3.toInt ∧ p3.toInt < 2147483648 := rng32 _; omega⟩
    have hva : 0 ≤ v108.toInt := by rw [← hv108]; have : (p4 &&& (2147483647 : Int32)).toInt = p4.toInt % 2147483648 := c_mask _ _ 31 (by decide) (by decide); have : -2147483648 ≤ (p4 &&& (2147483647 : Int32)).toInt ∧ (p4 &&& (2147483647 : Int32)).toInt < 2147483648 := rng32 _; have : -2147483648 ≤ p4.toInt ∧ p4.toInt < 2147483648 := rng32 _; omega
    have hvb : 0 ≤ v109.toInt := by rw [← hv109]; have : (p5 &&& (2147483647 : Int32)).toInt = p5.toInt % 2147483648 := c_mask _ _ 31 (by decide) (by decide); have : -2147483648 ≤ (p5 &&& (2147483647 : Int32)).toInt ∧ (p5 &&& (2147483647 : Int32)).toInt < 2147483648 := rng32 _; have : -2147483648 ≤ p5.toInt ∧ p5.toInt < 2147483648 := rng32 _; omega
    refine Go.join (α := State × (List Loc) × Heap × Int32 × Addr × Addr × Addr) (P := fun x => (fun (Tj142 : State) (Lj142 : List Loc) (hj142 : Heap) (fl : Int32) (oa : Addr) (xa : Addr) (xb : Addr) => Stand p l e room_1 s m #[(.int p1), (.int p2), (.int p3), (.int p4), (.int p5), (.int p6)] below meth c Tj142 Lj142 14 35 ∧ Tj142.heap = hj142 ∧ Fr n0 Lj142 ∧ n0 ≤ hj142.size ∧ Exa Z hj142 oa "com/example/edgewise/edgewise/EdgeSlots" ∧ Fld Z hj142 oa "com/example/edgewise/edgewise/EdgeSlots" "sources" "[I" (.ref xa) ∧ Fld Z hj142 oa "com/example/edgewise/edgewise/EdgeSlots" "targets" "[I" (.ref xb) ∧ Fld Z hj142 oa "com/example/edgewise/edgewise/EdgeSlots" "bound" "I" (.int (2 : Int32)) ∧ Fld Z hj142 oa "com/example/edgewise/edgewise/EdgeSlots" "count" "I" (.int (2 : Int32)) ∧ ArF Z hj142 xa .int 4 (fun i => .int ((upI (upI (fun _ => (0 : Int32)) 0 v108) 1 v109) i)) ∧ ArF Z hj142 xb .int 4 (fun i => .int ((upI (upI (fun _ => (0 : Int32)) 0 v109) 1 v108) i)) ∧ (xa ≠ oa ∧ xb ≠ oa ∧ xa ≠ xb ∧ n0 ≤ oa ∧ n0 ≤ xa ∧ n0 ≤ xb)) x.1 x.2.1 x.2.2.1 x.2.2.2.1 x.2.2.2.2.1 x.2.2.2.2.2.1 x.2.2.2.2.2.2) (F := fun x => (fun (Tj142 : State) (Lj142 : List Loc) (hj142 : Heap) (fl : Int32) (oa : Addr) (xa : Addr) (xb : Addr) => Tj142.setTop (mkF m 142 #[.val (.int p1), .val (.int p2), .val (.int p3), .val (.int p4), .val (.int p5), .val (.int p6), .val (.int (2 : Int32)), .val (.int v106), .val (.int v107), .val (.int v108), .val (.int v109), .val (.int fl), .val (.ref oa), .unset] [])) x.1 x.2.1 x.2.2.1 x.2.2.2.1 x.2.2.2.2.1 x.2.2.2.2.2.1 x.2.2.2.2.2.2) ?_ ?_
    · rintro ⟨Tj142, Lj142, hj142, fl, oa, xa, xb⟩ hP142
      obtain ⟨Xj142, ej142, Nj142, zj142, fj142_0, fj142_1, fj142_2, fj142_3, fj142_4, fj142_5, fj142_6, hJ142⟩ : Stand p l e room_1 s m #[(.int p1), (.int p2), (.int p3), (.int p4), (.int p5), (.int p6)] below meth c Tj142 Lj142 14 35 ∧ Tj142.heap = hj142 ∧ Fr n0 Lj142 ∧ n0 ≤ hj142.size ∧ Exa Z hj142 oa "com/example/edgewise/edgewise/EdgeSlots" ∧ Fld Z hj142 oa "com/example/edgewise/edgewise/EdgeSlots" "sources" "[I" (.ref xa) ∧ Fld Z hj142 oa "com/example/edgewise/edgewise/EdgeSlots" "targets" "[I" (.ref xb) ∧ Fld Z hj142 oa "com/example/edgewise/edgewise/EdgeSlots" "bound" "I" (.int (2 : Int32)) ∧ Fld Z hj142 oa "com/example/edgewise/edgewise/EdgeSlots" "count" "I" (.int (2 : Int32)) ∧ ArF Z hj142 xa .int 4 (fun i => .int ((upI (upI (fun _ => (0 : Int32)) 0 v108) 1 v109) i)) ∧ ArF Z hj142 xb .int 4 (fun i => .int ((upI (upI (fun _ => (0 : Int32)) 0 v109) 1 v108) i)) ∧ (xa ≠ oa ∧ xb ≠ oa ∧ xa ≠ xb ∧ n0 ≤ oa ∧ n0 ≤ xa ∧ n0 ≤ xb) := hP142
      show Go p.tables e below s _ _ _ (Tj142.setTop (mkF m 142 #[.val (.int p1), .val (.int p2), .val (.int p3), .val (.int p4), .val (.int p5), .val (.int p6), .val (.int (2 : Int32)), .val (.int v106), .val (.int v107), .val (.int v108), .val (.int v109), .val (.int fl), .val (.ref oa), .unset] []))
      obtain ⟨ne1, ne2, ne3, ge1, ge2, ge3⟩ := hJ142
      refine g_iload Xj142 hx hby at_142 (pc' := 144) rfl rfl ?_
      have hc144 : (0 : Int) < (2 : Int) := by decide
      refine g_ifNo Xj142 hx hby at_144 (pc' := 147) (tlt (show (0 : Int32) < (2 : Int32) from Int32.lt_iff_toInt_lt.mpr hc144)).2.2.2 rfl ?_
      refine Go.join (α := State × (List Loc) × Heap × (Nat → Int32) × (Nat → Int32) × Int32) (P := fun x => (fun (Tj160 : State) (Lj160 : List Loc) (hj160 : Heap) (ga0 : Nat → Int32) (gb0 : Nat → Int32) (ca0 : Int32) => Stand p l e room_1 s m #[(.int p1), (.int p2), (.int p3), (.int p4), (.int p5), (.int p6)] below meth c Tj160 Lj160 14 35 ∧ Tj160.heap = hj160 ∧ Fr n0 Lj160 ∧ n0 ≤ hj160.size ∧ Exa Z hj160 oa "com/example/edgewise/edgewise/EdgeSlots" ∧ Fld Z hj160 oa "com/example/edgewise/edgewise/EdgeSlots" "sources" "[I" (.ref xa) ∧ Fld Z hj160 oa "com/example/edgewise/edgewise/EdgeSlots" "targets" "[I" (.ref xb) ∧ Fld Z hj160 oa "com/example/edgewise/edgewise/EdgeSlots" "bound" "I" (.int (2 : Int32)) ∧ Fld Z hj160 oa "com/example/edgewise/edgewise/EdgeSlots" "count" "I" (.int ca0) ∧ ArF Z hj160 xa .int 4 (fun i => .int (ga0 i)) ∧ ArF Z hj160 xb .int 4 (fun i => .int (gb0 i)) ∧ (ga0 = own_rm (upI (upI (fun _ => (0 : Int32)) 0 v108) 1 v109) v106 (1 : Int32) 0)) x.1 x.2.1 x.2.2.1 x.2.2.2.1 x.2.2.2.2.1 x.2.2.2.2.2) (F := fun x => (fun (Tj160 : State) (Lj160 : List Loc) (hj160 : Heap) (ga0 : Nat → Int32) (gb0 : Nat → Int32) (ca0 : Int32) => Tj160.setTop (mkF m 160 #[.val (.int p1), .val (.int p2), .val (.int p3), .val (.int p4), .val (.int p5), .val (.int p6), .val (.int (2 : Int32)), .val (.int v106), .val (.int v107), .val (.int v108), .val (.int v109), .val (.int fl), .val (.ref oa), .unset] [])) x.1 x.2.1 x.2.2.1 x.2.2.2.1 x.2.2.2.2.1 x.2.2.2.2.2) ?_ ?_
      · rintro ⟨Tj160, Lj160, hj160, ga0, gb0, ca0⟩ hP160
        obtain ⟨Xj160, ej160, Nj160, zj160, fj160_0, fj160_1, fj160_2, fj160_3, fj160_4, fj160_5, fj160_6, hJ160⟩ : Stand p l e room_1 s m #[(.int p1), (.int p2), (.int p3), (.int p4), (.int p5), (.int p6)] below meth c Tj160 Lj160 14 35 ∧ Tj160.heap = hj160 ∧ Fr n0 Lj160 ∧ n0 ≤ hj160.size ∧ Exa Z hj160 oa "com/example/edgewise/edgewise/EdgeSlots" ∧ Fld Z hj160 oa "com/example/edgewise/edgewise/EdgeSlots" "sources" "[I" (.ref xa) ∧ Fld Z hj160 oa "com/example/edgewise/edgewise/EdgeSlots" "targets" "[I" (.ref xb) ∧ Fld Z hj160 oa "com/example/edgewise/edgewise/EdgeSlots" "bound" "I" (.int (2 : Int32)) ∧ Fld Z hj160 oa "com/example/edgewise/edgewise/EdgeSlots" "count" "I" (.int ca0) ∧ ArF Z hj160 xa .int 4 (fun i => .int (ga0 i)) ∧ ArF Z hj160 xb .int 4 (fun i => .int (gb0 i)) ∧ (ga0 = own_rm (upI (upI (fun _ => (0 : Int32)) 0 v108) 1 v109) v106 (1 : Int32) 0) := hP160
        show Go p.tables e below s _ _ _ (Tj160.setTop (mkF m 160 #[.val (.int p1), .val (.int p2), .val (.int p3), .val (.int p4), .val (.int p5), .val (.int p6), .val (.int (2 : Int32)), .val (.int v106), .val (.int v107), .val (.int v108), .val (.int v109), .val (.int fl), .val (.ref oa), .unset] []))
        refine g_iload Xj160 hx hby at_160 (pc' := 162) rfl rfl ?_
        refine g_iconst Xj160 hx hby at_162 (pc' := 163) rfl (z := (1 : Int32)) rfl ?_
        have hc163 : (1 : Int) < (2 : Int) := by decide
        refine g_icmpNo Xj160 hx hby at_163 (pc' := 166) (tlt (show (1 : Int32) < (2 : Int32) from Int32.lt_iff_toInt_lt.mpr hc163)).2.2.2 rfl ?_
        refine Go.join (α := State × (List Loc) × Heap × (Nat → Int32) × (Nat → Int32) × Int32) (P := fun x => (fun (Tj179 : State) (Lj179 : List Loc) (hj179 : Heap) (ga1 : Nat → Int32) (gb1 : Nat → Int32) (ca1 : Int32) => Stand p l e room_1 s m #[(.int p1), (.int p2), (.int p3), (.int p4), (.int p5), (.int p6)] below meth c Tj179 Lj179 14 35 ∧ Tj179.heap = hj179 ∧ Fr n0 Lj179 ∧ n0 ≤ hj179.size ∧ Exa Z hj179 oa "com/example/edgewise/edgewise/EdgeSlots" ∧ Fld Z hj179 oa "com/example/edgewise/edgewise/EdgeSlots" "sources" "[I" (.ref xa) ∧ Fld Z hj179 oa "com/example/edgewise/edgewise/EdgeSlots" "targets" "[I" (.ref xb) ∧ Fld Z hj179 oa "com/example/edgewise/edgewise/EdgeSlots" "bound" "I" (.int (2 : Int32)) ∧ Fld Z hj179 oa "com/example/edgewise/edgewise/EdgeSlots" "count" "I" (.int ca1) ∧ ArF Z hj179 xa .int 4 (fun i => .int (ga1 i)) ∧ ArF Z hj179 xb .int 4 (fun i => .int (gb1 i)) ∧ (ga1 = own_rm ga0 v106 (2 : Int32) 1)) x.1 x.2.1 x.2.2.1 x.2.2.2.1 x.2.2.2.2.1 x.2.2.2.2.2) (F := fun x => (fun (Tj179 : State) (Lj179 : List Loc) (hj179 : Heap) (ga1 : Nat → Int32) (gb1 : Nat → Int32) (ca1 : Int32) => Tj179.setTop (mkF m 179 #[.val (.int p1), .val (.int p2), .val (.int p3), .val (.int p4), .val (.int p5), .val (.int p6), .val (.int (2 : Int32)), .val (.int v106), .val (.int v107), .val (.int v108), .val (.int v109), .val (.int fl), .val (.ref oa), .unset] [])) x.1 x.2.1 x.2.2.1 x.2.2.2.1 x.2.2.2.2.1 x.2.2.2.2.2) ?_ ?_
        · rintro ⟨Tj179, Lj179, hj179, ga1, gb1, ca1⟩ hP179
          obtain ⟨Xj179, ej179, Nj179, zj179, fj179_0, fj179_1, fj179_2, fj179_3, fj179_4, fj179_5, fj179_6, hJ179⟩ : Stand p l e room_1 s m #[(.int p1), (.int p2), (.int p3), (.int p4), (.int p5), (.int p6)] below meth c Tj179 Lj179 14 35 ∧ Tj179.heap = hj179 ∧ Fr n0 Lj179 ∧ n0 ≤ hj179.size ∧ Exa Z hj179 oa "com/example/edgewise/edgewise/EdgeSlots" ∧ Fld Z hj179 oa "com/example/edgewise/edgewise/EdgeSlots" "sources" "[I" (.ref xa) ∧ Fld Z hj179 oa "com/example/edgewise/edgewise/EdgeSlots" "targets" "[I" (.ref xb) ∧ Fld Z hj179 oa "com/example/edgewise/edgewise/EdgeSlots" "bound" "I" (.int (2 : Int32)) ∧ Fld Z hj179 oa "com/example/edgewise/edgewise/EdgeSlots" "count" "I" (.int ca1) ∧ ArF Z hj179 xa .int 4 (fun i => .int (ga1 i)) ∧ ArF Z hj179 xb .int 4 (fun i => .int (gb1 i)) ∧ (ga1 = own_rm ga0 v106 (2 : Int32) 1) := hP179
          show Go p.tables e below s _ _ _ (Tj179.setTop (mkF m 179 #[.val (.int p1), .val (.int p2), .val (.int p3), .val (.int p4), .val (.int p5), .val (.int p6), .val (.int (2 : Int32)), .val (.int v106), .val (.int v107), .val (.int v108), .val (.int v109), .val (.int fl), .val (.ref oa), .unset] []))
          refine g_iload Xj179 hx hby at_179 (pc' := 181) rfl rfl ?_
          refine g_iconst Xj179 hx hby at_181 (pc' := 182) rfl (z := (2 : Int32)) rfl ?_
          have hc182 : ¬ ((2 : Int) < (2 : Int)) := by decide
          refine g_icmpYes Xj179 hx hby at_182 (pc' := 198) (flt (show ¬ ((2 : Int32) < (2 : Int32)) from fun q => hc182 (Int32.lt_iff_toInt_lt.mp q))).2.2.2 (by decide) (by decide) ?_
          refine g_iload Xj179 hx hby at_198 (pc' := 200) rfl rfl ?_
          refine g_iconst Xj179 hx hby at_200 (pc' := 201) rfl (z := (3 : Int32)) rfl ?_
          have hc201 : ¬ ((3 : Int) < (2 : Int)) := by decide
          refine g_icmpYes Xj179 hx hby at_201 (pc' := 218) (flt (show ¬ ((3 : Int32) < (2 : Int32)) from fun q => hc201 (Int32.lt_iff_toInt_lt.mp q))).2.2.2 (by decide) (by decide) ?_
          refine g_iload Xj179 hx hby at_218 (pc' := 220) rfl rfl ?_
          refine g_istore Xj179 hx hby at_220 (pc' := 222) rfl (L' := #[.val (.int p1), .val (.int p2), .val (.int p3), .val (.int p4), .val (.int p5), .val (.int p6), .val (.int (2 : Int32)), .val (.int v106), .val (.int v107), .val (.int v108), .val (.int v109), .val (.int fl), .val (.ref oa), .val (.int (2 : Int32))]) rfl ?_
          refine Go.join (α := State × (List Loc) × Int32) (P := fun x => (fun (Tj242 : State) (Lj242 : List Loc) (ee3 : Int32) => Stand p l e room_1 s m #[(.int p1), (.int p2), (.int p3), (.int p4), (.int p5), (.int p6)] below meth c Tj242 Lj242 14 35 ∧ Tj242.heap = hj179 ∧ Fr n0 Lj242 ∧ (ee3 = own_ei 3 (3 : Int32) v107 (2 : Int32) v106 (2 : Int32))) x.1 x.2.1 x.2.2) (F := fun x => (fun (Tj242 : State) (Lj242 : List Loc) (ee3 : Int32) => Tj242.setTop (mkF m 242 #[.val (.int p1), .val (.int p2), .val (.int p3), .val (.int p4), .val (.int p5), .val (.int p6), .val (.int (2 : Int32)), .val (.int v106), .val (.int v107), .val (.int v108), .val (.int v109), .val (.int fl), .val (.ref oa), .val (.int ee3)] [])) x.1 x.2.1 x.2.2) ?_ ?_
          · rintro ⟨Tj242, Lj242, ee3⟩ hP242
            obtain ⟨Xj242, ej242, Nj242, hJ242⟩ : Stand p l e room_1 s m #[(.int p1), (.int p2), (.int p3), (.int p4), (.int p5), (.int p6)] below meth c Tj242 Lj242 14 35 ∧ Tj242.heap = hj179 ∧ Fr n0 Lj242 ∧ (ee3 = own_ei 3 (3 : Int32) v107 (2 : Int32) v106 (2 : Int32)) := hP242
            show Go p.tables e below s _ _ _ (Tj242.setTop (mkF m 242 #[.val (.int p1), .val (.int p2), .val (.int p3), .val (.int p4), .val (.int p5), .val (.int p6), .val (.int (2 : Int32)), .val (.int v106), .val (.int v107), .val (.int v108), .val (.int v109), .val (.int fl), .val (.ref oa), .val (.int ee3)] []))
            refine Go.join (α := State × (List Loc) × Int32) (P := fun x => (fun (Tj262 : State) (Lj262 : List Loc) (ee2 : Int32) => Stand p l e room_1 s m #[(.int p1), (.int p2), (.int p3), (.int p4), (.int p5), (.int p6)] below meth c Tj262 Lj262 14 35 ∧ Tj262.heap = hj179 ∧ Fr n0 Lj262 ∧ (ee2 = own_ei 2 (2 : Int32) v107 (2 : Int32) v106 ee3)) x.1 x.2.1 x.2.2) (F := fun x => (fun (Tj262 : State) (Lj262 : List Loc) (ee2 : Int32) => Tj262.setTop (mkF m 262 #[.val (.int p1), .val (.int p2), .val (.int p3), .val (.int p4), .val (.int p5), .val (.int p6), .val (.int (2 : Int32)), .val (.int v106), .val (.int v107), .val (.int v108), .val (.int v109), .val (.int fl), .val (.ref oa), .val (.int ee2)] [])) x.1 x.2.1 x.2.2) ?_ ?_
            · rintro ⟨Tj262, Lj262, ee2⟩ hP262
              obtain ⟨Xj262, ej262, Nj262, hJ262⟩ : Stand p l e room_1 s m #[(.int p1), (.int p2), (.int p3), (.int p4), (.int p5), (.int p6)] below meth c Tj262 Lj262 14 35 ∧ Tj262.heap = hj179 ∧ Fr n0 Lj262 ∧ (ee2 = own_ei 2 (2 : Int32) v107 (2 : Int32) v106 ee3) := hP262
              show Go p.tables e below s _ _ _ (Tj262.setTop (mkF m 262 #[.val (.int p1), .val (.int p2), .val (.int p3), .val (.int p4), .val (.int p5), .val (.int p6), .val (.int (2 : Int32)), .val (.int v106), .val (.int v107), .val (.int v108), .val (.int v109), .val (.int fl), .val (.ref oa), .val (.int ee2)] []))
              refine Go.join (α := State × (List Loc) × Int32) (P := fun x => (fun (Tj282 : State) (Lj282 : List Loc) (ee1 : Int32) => Stand p l e room_1 s m #[(.int p1), (.int p2), (.int p3), (.int p4), (.int p5), (.int p6)] below meth c Tj282 Lj282 14 35 ∧ Tj282.heap = hj179 ∧ Fr n0 Lj282 ∧ (ee1 = own_ei 1 (1 : Int32) v107 (2 : Int32) v106 ee2)) x.1 x.2.1 x.2.2) (F := fun x => (fun (Tj282 : State) (Lj282 : List Loc) (ee1 : Int32) => Tj282.setTop (mkF m 282 #[.val (.int p1), .val (.int p2), .val (.int p3), .val (.int p4), .val (.int p5), .val (.int p6), .val (.int (2 : Int32)), .val (.int v106), .val (.int v107), .val (.int v108), .val (.int v109), .val (.int fl), .val (.ref oa), .val (.int ee1)] [])) x.1 x.2.1 x.2.2) ?_ ?_
              · rintro ⟨Tj282, Lj282, ee1⟩ hP282
                obtain ⟨Xj282, ej282, Nj282, hJ282⟩ : Stand p l e room_1 s m #[(.int p1), (.int p2), (.int p3), (.int p4), (.int p5), (.int p6)] below meth c Tj282 Lj282 14 35 ∧ Tj282.heap = hj179 ∧ Fr n0 Lj282 ∧ (ee1 = own_ei 1 (1 : Int32) v107 (2 : Int32) v106 ee2) := hP282
                show Go p.tables e below s _ _ _ (Tj282.setTop (mkF m 282 #[.val (.int p1), .val (.int p2), .val (.int p3), .val (.int p4), .val (.int p5), .val (.int p6), .val (.int (2 : Int32)), .val (.int v106), .val (.int v107), .val (.int v108), .val (.int v109), .val (.int fl), .val (.ref oa), .val (.int ee1)] []))
                refine Go.join (α := State × (List Loc) × Int32) (P := fun x => (fun (Tj302 : State) (Lj302 : List Loc) (ee0 : Int32) => Stand p l e room_1 s m #[(.int p1), (.int p2), (.int p3), (.int p4), (.int p5), (.int p6)] below meth c Tj302 Lj302 14 35 ∧ Tj302.heap = hj179 ∧ Fr n0 Lj302 ∧ (ee0 = own_ei 0 (0 : Int32) v107 (2 : Int32) v106 ee1)) x.1 x.2.1 x.2.2) (F := fun x => (fun (Tj302 : State) (Lj302 : List Loc) (ee0 : Int32) => Tj302.setTop (mkF m 302 #[.val (.int p1), .val (.int p2), .val (.int p3), .val (.int p4), .val (.int p5), .val (.int p6), .val (.int (2 : Int32)), .val (.int v106), .val (.int v107), .val (.int v108), .val (.int v109), .val (.int fl), .val (.ref oa), .val (.int ee0)] [])) x.1 x.2.1 x.2.2) ?_ ?_
                · rintro ⟨Tj302, Lj302, ee0⟩ hP302
                  obtain ⟨Xj302, ej302, Nj302, hJ302⟩ : Stand p l e room_1 s m #[(.int p1), (.int p2), (.int p3), (.int p4), (.int p5), (.int p6)] below meth c Tj302 Lj302 14 35 ∧ Tj302.heap = hj179 ∧ Fr n0 Lj302 ∧ (ee0 = own_ei 0 (0 : Int32) v107 (2 : Int32) v106 ee1) := hP302
                  show Go p.tables e below s _ _ _ (Tj302.setTop (mkF m 302 #[.val (.int p1), .val (.int p2), .val (.int p3), .val (.int p4), .val (.int p5), .val (.int p6), .val (.int (2 : Int32)), .val (.int v106), .val (.int v107), .val (.int v108), .val (.int v109), .val (.int fl), .val (.ref oa), .val (.int ee0)] []))
                  refine g_aload Xj302 hx hby at_302 (pc' := 304) rfl rfl rfl ?_
                  refine g_iload Xj302 hx hby at_304 (pc' := 306) rfl rfl ?_
                  refine Go.callV Xj302 hx hZ (y := (⟨"com/example/edgewise/edgewise/EdgeSlots", "nextLive", "(I)I"⟩ : MethodName)) (z := (⟨"com/example/edgewise/edgewise/EdgeSlots", "nextLive", "(I)I"⟩ : MethodName)) hown (wi hw 33 rfl) (wi hw 34 rfl) (notFace_of_selects (args := #[]) (mvT hZ (wi hw 36 rfl))) (wi hw 36 rfl) (wi hw 35 rfl) (wi hw 3 rfl) (wi hw 37 rfl) (by decide) ej302 (a := oa) (argsL := [(.int v107)]) (rest := []) (W := 0) fj179_0 (rm_nl l Z a0 hw oa v107 xa 4 ga1 (2 : Int32) 2 ks hj179 n0 zj179 fj179_3 fj179_1 fj179_5 rfl hks (by decide) hkle) (hb hby at_306) (by rw [hml]; rfl) rfl pd_aIzI rfl rfl (by decide) (by decide) (by decide) (by decide) ?_
                  intro v110 T110 L110 X110 hQ110
                  obtain ⟨rfl, Nq110, hh110⟩ := hQ110
                  have N110 := Fr.app Nj302 Nq110
                  show Go p.tables e below s _ _ _ (T110.setTop (mkF m 309 #[.val (.int p1), .val (.int p2), .val (.int p3), .val (.int p4), .val (.int p5), .val (.int p6), .val (.int (2 : Int32)), .val (.int v106), .val (.int v107), .val (.int v108), .val (.int v109), .val (.int fl), .val (.ref oa), .val (.int ee0)] [(.int (own_nl ga1 (2 - ks) ks))]))
                  have hfin : (own_nl ga1 (2 - ks) ks) = ee0 := by
                    rw [hJ302, hJ282, hJ262, hJ242, hJ179, hJ160]
                    exact own_fin2 _ v106 v107 ks hm hks hkle  hva  hvb
                  rw [hfin]
                  show Go p.tables e below s _ _ _ (T110.setTop (mkF m 309 #[.val (.int p1), .val (.int p2), .val (.int p3), .val (.int p4), .val (.int p5), .val (.int p6), .val (.int (2 : Int32)), .val (.int v106), .val (.int v107), .val (.int v108), .val (.int v109), .val (.int fl), .val (.ref oa), .val (.int ee0)] [(.int ee0)]))
                  refine g_iload X110 hx hby at_309 (pc' := 311) rfl rfl ?_
                  have hc311 : ee0.toInt = ee0.toInt := rfl
                  refine g_icmpNo X110 hx hby at_311 (pc' := 314) (teq (show ee0 = ee0 from Int32.toInt_inj.mp hc311)).2 rfl ?_
                  refine g_iconst X110 hx hby at_314 (pc' := 315) rfl (z := (1 : Int32)) rfl ?_
                  refine g_goto X110 hx hby at_315 (pc' := 319) (by decide) (by decide) ?_
                  refine Go.retZ X110 hx hlk hret (by simp) (hb hby at_319) (by decide) (by decide) ?_
                  exact ⟨rfl, N110⟩
                intro J302
                refine g_iconst Xj282 hx hby at_282 (pc' := 283) rfl (z := (0 : Int32)) rfl ?_
                refine g_iload Xj282 hx hby at_283 (pc' := 285) rfl rfl ?_
                by_cases hc285 : (0 : Int) < v107.toInt
                · refine g_icmpYes Xj282 hx hby at_285 (pc' := 302) (tlt (show (0 : Int32) < v107 from Int32.lt_iff_toInt_lt.mpr hc285)).1 (by decide) (by decide) ?_
                  exact J302 (Tj282, _, ee1) ⟨Xj282.more (by decide) (by decide), ej282, Nj282, (show ee1 = own_ei 0 (0 : Int32) v107 (2 : Int32) v106 ee1 from (by unfold own_ei; first | (exfalso; omega) | (rw [if_pos (by omega)]) | (rw [if_neg (by omega)])))⟩
                · refine g_icmpNo Xj282 hx hby at_285 (pc' := 288) (flt (show ¬ ((0 : Int32) < v107) from fun q => hc285 (Int32.lt_iff_toInt_lt.mp q))).1 rfl ?_
                  refine g_iconst Xj282 hx hby at_288 (pc' := 289) rfl (z := (0 : Int32)) rfl ?_
                  refine g_iload Xj282 hx hby at_289 (pc' := 291) rfl rfl ?_
                  refine g_iload Xj282 hx hby at_291 (pc' := 293) rfl rfl ?_
                  refine Go.callS Xj282 hx hZ (y := (⟨"com/example/edgewise/edgewise/EdgeSlotsNextLivePinLaw", "live", "(III)Z"⟩ : MethodName)) hown (wi hw 29 rfl) (wi hw 30 rfl) (wi hw 31 rfl) (wi hw 32 rfl) (by decide) ej282 (argsL := [(.int (0 : Int32)), (.int (2 : Int32)), (.int v106)]) (rest := []) (W := 0) (rm_live l Z a0 hw (0 : Int32) (2 : Int32) v106 hj179 n0 zj179 ) (hb hby at_293) (by rw [hml]; rfl) rfl pd_aIIIzZ rfl rfl (by decide) (by decide) (by decide) (by decide) ?_
                  intro v111 T111 L111 X111 hQ111
                  obtain ⟨rfl, Nq111, hh111⟩ := hQ111
                  have N111 := Fr.app Nj282 Nq111
                  show Go p.tables e below s _ _ _ (T111.setTop (mkF m 296 #[.val (.int p1), .val (.int p2), .val (.int p3), .val (.int p4), .val (.int p5), .val (.int p6), .val (.int (2 : Int32)), .val (.int v106), .val (.int v107), .val (.int v108), .val (.int v109), .val (.int fl), .val (.ref oa), .val (.int ee1)] [(.int (own_live (0 : Int32) (2 : Int32) v106))]))
                  by_cases hc296 : (own_live (0 : Int32) (2 : Int32) v106).toInt = (0 : Int)
                  · refine g_ifYes X111 hx hby at_296 (pc' := 302) (teq (show (own_live (0 : Int32) (2 : Int32) v106) = (0 : Int32) from Int32.toInt_inj.mp hc296)).1 (by decide) (by decide) ?_
                    exact J302 (T111, _, ee1) ⟨X111.more (by decide) (by decide), hh111, N111, (show ee1 = own_ei 0 (0 : Int32) v107 (2 : Int32) v106 ee1 from (by unfold own_ei; first | (exfalso; omega) | (rw [if_pos (by omega)]) | (rw [if_neg (by omega)])))⟩
                  · refine g_ifNo X111 hx hby at_296 (pc' := 299) (feq (show ¬ ((own_live (0 : Int32) (2 : Int32) v106) = (0 : Int32)) from fun q => hc296 (congrArg Int32.toInt q))).1 rfl ?_
                    refine g_iconst X111 hx hby at_299 (pc' := 300) rfl (z := (0 : Int32)) rfl ?_
                    refine g_istore X111 hx hby at_300 (pc' := 302) rfl (L' := #[.val (.int p1), .val (.int p2), .val (.int p3), .val (.int p4), .val (.int p5), .val (.int p6), .val (.int (2 : Int32)), .val (.int v106), .val (.int v107), .val (.int v108), .val (.int v109), .val (.int fl), .val (.ref oa), .val (.int (0 : Int32))]) rfl ?_
                    exact J302 (T111, _, (0 : Int32)) ⟨X111.more (by decide) (by decide), hh111, N111, (show (0 : Int32) = own_ei 0 (0 : Int32) v107 (2 : Int32) v106 ee1 from (by unfold own_ei; first | (exfalso; omega) | (rw [if_pos (by omega)]) | (rw [if_neg (by omega)])))⟩
              intro J282
              refine g_iconst Xj262 hx hby at_262 (pc' := 263) rfl (z := (1 : Int32)) rfl ?_
              refine g_iload Xj262 hx hby at_263 (pc' := 265) rfl rfl ?_
              by_cases hc265 : (1 : Int) < v107.toInt
              · refine g_icmpYes Xj262 hx hby at_265 (pc' := 282) (tlt (show (1 : Int32) < v107 from Int32.lt_iff_toInt_lt.mpr hc265)).1 (by decide) (by decide) ?_
                exact J282 (Tj262, _, ee2) ⟨Xj262.more (by decide) (by decide), ej262, Nj262, (show ee2 = own_ei 1 (1 : Int32) v107 (2 : Int32) v106 ee2 from (by unfold own_ei; first | (exfalso; omega) | (rw [if_pos (by omega)]) | (rw [if_neg (by omega)])))⟩
              · refine g_icmpNo Xj262 hx hby at_265 (pc' := 268) (flt (show ¬ ((1 : Int32) < v107) from fun q => hc265 (Int32.lt_iff_toInt_lt.mp q))).1 rfl ?_
                refine g_iconst Xj262 hx hby at_268 (pc' := 269) rfl (z := (1 : Int32)) rfl ?_
                refine g_iload Xj262 hx hby at_269 (pc' := 271) rfl rfl ?_
                refine g_iload Xj262 hx hby at_271 (pc' := 273) rfl rfl ?_
                refine Go.callS Xj262 hx hZ (y := (⟨"com/example/edgewise/edgewise/EdgeSlotsNextLivePinLaw", "live", "(III)Z"⟩ : MethodName)) hown (wi hw 29 rfl) (wi hw 30 rfl) (wi hw 31 rfl) (wi hw 32 rfl) (by decide) ej262 (argsL := [(.int (1 : Int32)), (.int (2 : Int32)), (.int v106)]) (rest := []) (W := 0) (rm_live l Z a0 hw (1 : Int32) (2 : Int32) v106 hj179 n0 zj179 ) (hb hby at_273) (by rw [hml]; rfl) rfl pd_aIIIzZ rfl rfl (by decide) (by decide) (by decide) (by decide) ?_
                intro v112 T112 L112 X112 hQ112
                obtain ⟨rfl, Nq112, hh112⟩ := hQ112
                have N112 := Fr.app Nj262 Nq112
                show Go p.tables e below s _ _ _ (T112.setTop (mkF m 276 #[.val (.int p1), .val (.int p2), .val (.int p3), .val (.int p4), .val (.int p5), .val (.int p6), .val (.int (2 : Int32)), .val (.int v106), .val (.int v107), .val (.int v108), .val (.int v109), .val (.int fl), .val (.ref oa), .val (.int ee2)] [(.int (own_live (1 : Int32) (2 : Int32) v106))]))
                by_cases hc276 : (own_live (1 : Int32) (2 : Int32) v106).toInt = (0 : Int)
                · refine g_ifYes X112 hx hby at_276 (pc' := 282) (teq (show (own_live (1 : Int32) (2 : Int32) v106) = (0 : Int32) from Int32.toInt_inj.mp hc276)).1 (by decide) (by decide) ?_
                  exact J282 (T112, _, ee2) ⟨X112.more (by decide) (by decide), hh112, N112, (show ee2 = own_ei 1 (1 : Int32) v107 (2 : Int32) v106 ee2 from (by unfold own_ei; first | (exfalso; omega) | (rw [if_pos (by omega)]) | (rw [if_neg (by omega)])))⟩
                · refine g_ifNo X112 hx hby at_276 (pc' := 279) (feq (show ¬ ((own_live (1 : Int32) (2 : Int32) v106) = (0 : Int32)) from fun q => hc276 (congrArg Int32.toInt q))).1 rfl ?_
                  refine g_iconst X112 hx hby at_279 (pc' := 280) rfl (z := (1 : Int32)) rfl ?_
                  refine g_istore X112 hx hby at_280 (pc' := 282) rfl (L' := #[.val (.int p1), .val (.int p2), .val (.int p3), .val (.int p4), .val (.int p5), .val (.int p6), .val (.int (2 : Int32)), .val (.int v106), .val (.int v107), .val (.int v108), .val (.int v109), .val (.int fl), .val (.ref oa), .val (.int (1 : Int32))]) rfl ?_
                  exact J282 (T112, _, (1 : Int32)) ⟨X112.more (by decide) (by decide), hh112, N112, (show (1 : Int32) = own_ei 1 (1 : Int32) v107 (2 : Int32) v106 ee2 from (by unfold own_ei; first | (exfalso; omega) | (rw [if_pos (by omega)]) | (rw [if_neg (by omega)])))⟩
            intro J262
            refine g_iconst Xj242 hx hby at_242 (pc' := 243) rfl (z := (2 : Int32)) rfl ?_
            refine g_iload Xj242 hx hby at_243 (pc' := 245) rfl rfl ?_
            by_cases hc245 : (2 : Int) < v107.toInt
            · refine g_icmpYes Xj242 hx hby at_245 (pc' := 262) (tlt (show (2 : Int32) < v107 from Int32.lt_iff_toInt_lt.mpr hc245)).1 (by decide) (by decide) ?_
              exact J262 (Tj242, _, ee3) ⟨Xj242.more (by decide) (by decide), ej242, Nj242, (show ee3 = own_ei 2 (2 : Int32) v107 (2 : Int32) v106 ee3 from (by unfold own_ei; first | (exfalso; omega) | (rw [if_pos (by omega)]) | (rw [if_neg (by omega)])))⟩
            · refine g_icmpNo Xj242 hx hby at_245 (pc' := 248) (flt (show ¬ ((2 : Int32) < v107) from fun q => hc245 (Int32.lt_iff_toInt_lt.mp q))).1 rfl ?_
              refine g_iconst Xj242 hx hby at_248 (pc' := 249) rfl (z := (2 : Int32)) rfl ?_
              refine g_iload Xj242 hx hby at_249 (pc' := 251) rfl rfl ?_
              refine g_iload Xj242 hx hby at_251 (pc' := 253) rfl rfl ?_
              refine Go.callS Xj242 hx hZ (y := (⟨"com/example/edgewise/edgewise/EdgeSlotsNextLivePinLaw", "live", "(III)Z"⟩ : MethodName)) hown (wi hw 29 rfl) (wi hw 30 rfl) (wi hw 31 rfl) (wi hw 32 rfl) (by decide) ej242 (argsL := [(.int (2 : Int32)), (.int (2 : Int32)), (.int v106)]) (rest := []) (W := 0) (rm_live l Z a0 hw (2 : Int32) (2 : Int32) v106 hj179 n0 zj179 ) (hb hby at_253) (by rw [hml]; rfl) rfl pd_aIIIzZ rfl rfl (by decide) (by decide) (by decide) (by decide) ?_
              intro v113 T113 L113 X113 hQ113
              obtain ⟨rfl, Nq113, hh113⟩ := hQ113
              have N113 := Fr.app Nj242 Nq113
              show Go p.tables e below s _ _ _ (T113.setTop (mkF m 256 #[.val (.int p1), .val (.int p2), .val (.int p3), .val (.int p4), .val (.int p5), .val (.int p6), .val (.int (2 : Int32)), .val (.int v106), .val (.int v107), .val (.int v108), .val (.int v109), .val (.int fl), .val (.ref oa), .val (.int ee3)] [(.int (own_live (2 : Int32) (2 : Int32) v106))]))
              by_cases hc256 : (own_live (2 : Int32) (2 : Int32) v106).toInt = (0 : Int)
              · refine g_ifYes X113 hx hby at_256 (pc' := 262) (teq (show (own_live (2 : Int32) (2 : Int32) v106) = (0 : Int32) from Int32.toInt_inj.mp hc256)).1 (by decide) (by decide) ?_
                exact J262 (T113, _, ee3) ⟨X113.more (by decide) (by decide), hh113, N113, (show ee3 = own_ei 2 (2 : Int32) v107 (2 : Int32) v106 ee3 from (by unfold own_ei; first | (exfalso; omega) | (rw [if_pos (by omega)]) | (rw [if_neg (by omega)])))⟩
              · refine g_ifNo X113 hx hby at_256 (pc' := 259) (feq (show ¬ ((own_live (2 : Int32) (2 : Int32) v106) = (0 : Int32)) from fun q => hc256 (congrArg Int32.toInt q))).1 rfl ?_
                refine g_iconst X113 hx hby at_259 (pc' := 260) rfl (z := (2 : Int32)) rfl ?_
                refine g_istore X113 hx hby at_260 (pc' := 262) rfl (L' := #[.val (.int p1), .val (.int p2), .val (.int p3), .val (.int p4), .val (.int p5), .val (.int p6), .val (.int (2 : Int32)), .val (.int v106), .val (.int v107), .val (.int v108), .val (.int v109), .val (.int fl), .val (.ref oa), .val (.int (2 : Int32))]) rfl ?_
                exact J262 (T113, _, (2 : Int32)) ⟨X113.more (by decide) (by decide), hh113, N113, (show (2 : Int32) = own_ei 2 (2 : Int32) v107 (2 : Int32) v106 ee3 from (by unfold own_ei; first | (exfalso; omega) | (rw [if_pos (by omega)]) | (rw [if_neg (by omega)])))⟩
          intro J242
          refine g_iconst Xj179 hx hby at_222 (pc' := 223) rfl (z := (3 : Int32)) rfl ?_
          refine g_iload Xj179 hx hby at_223 (pc' := 225) rfl rfl ?_
          by_cases hc225 : (3 : Int) < v107.toInt
          · refine g_icmpYes Xj179 hx hby at_225 (pc' := 242) (tlt (show (3 : Int32) < v107 from Int32.lt_iff_toInt_lt.mpr hc225)).1 (by decide) (by decide) ?_
            exact J242 (Tj179, _, (2 : Int32)) ⟨Xj179.more (by decide) (by decide), ej179, Nj179, (show (2 : Int32) = own_ei 3 (3 : Int32) v107 (2 : Int32) v106 (2 : Int32) from (by unfold own_ei; first | (exfalso; omega) | (rw [if_pos (by omega)]) | (rw [if_neg (by omega)])))⟩
          · refine g_icmpNo Xj179 hx hby at_225 (pc' := 228) (flt (show ¬ ((3 : Int32) < v107) from fun q => hc225 (Int32.lt_iff_toInt_lt.mp q))).1 rfl ?_
            refine g_iconst Xj179 hx hby at_228 (pc' := 229) rfl (z := (3 : Int32)) rfl ?_
            refine g_iload Xj179 hx hby at_229 (pc' := 231) rfl rfl ?_
            refine g_iload Xj179 hx hby at_231 (pc' := 233) rfl rfl ?_
            refine Go.callS Xj179 hx hZ (y := (⟨"com/example/edgewise/edgewise/EdgeSlotsNextLivePinLaw", "live", "(III)Z"⟩ : MethodName)) hown (wi hw 29 rfl) (wi hw 30 rfl) (wi hw 31 rfl) (wi hw 32 rfl) (by decide) ej179 (argsL := [(.int (3 : Int32)), (.int (2 : Int32)), (.int v106)]) (rest := []) (W := 0) (rm_live l Z a0 hw (3 : Int32) (2 : Int32) v106 hj179 n0 zj179 ) (hb hby at_233) (by rw [hml]; rfl) rfl pd_aIIIzZ rfl rfl (by decide) (by decide) (by decide) (by decide) ?_
            intro v114 T114 L114 X114 hQ114
            obtain ⟨rfl, Nq114, hh114⟩ := hQ114
            have N114 := Fr.app Nj179 Nq114
            show Go p.tables e below s _ _ _ (T114.setTop (mkF m 236 #[.val (.int p1), .val (.int p2), .val (.int p3), .val (.int p4), .val (.int p5), .val (.int p6), .val (.int (2 : Int32)), .val (.int v106), .val (.int v107), .val (.int v108), .val (.int v109), .val (.int fl), .val (.ref oa), .val (.int (2 : Int32))] [(.int (own_live (3 : Int32) (2 : Int32) v106))]))
            by_cases hc236 : (own_live (3 : Int32) (2 : Int32) v106).toInt = (0 : Int)
            · refine g_ifYes X114 hx hby at_236 (pc' := 242) (teq (show (own_live (3 : Int32) (2 : Int32) v106) = (0 : Int32) from Int32.toInt_inj.mp hc236)).1 (by decide) (by decide) ?_
              exact J242 (T114, _, (2 : Int32)) ⟨X114.more (by decide) (by decide), hh114, N114, (show (2 : Int32) = own_ei 3 (3 : Int32) v107 (2 : Int32) v106 (2 : Int32) from (by unfold own_ei; first | (exfalso; omega) | (rw [if_pos (by omega)]) | (rw [if_neg (by omega)])))⟩
            · refine g_ifNo X114 hx hby at_236 (pc' := 239) (feq (show ¬ ((own_live (3 : Int32) (2 : Int32) v106) = (0 : Int32)) from fun q => hc236 (congrArg Int32.toInt q))).1 rfl ?_
              refine g_iconst X114 hx hby at_239 (pc' := 240) rfl (z := (3 : Int32)) rfl ?_
              refine g_istore X114 hx hby at_240 (pc' := 242) rfl (L' := #[.val (.int p1), .val (.int p2), .val (.int p3), .val (.int p4), .val (.int p5), .val (.int p6), .val (.int (2 : Int32)), .val (.int v106), .val (.int v107), .val (.int v108), .val (.int v109), .val (.int fl), .val (.ref oa), .val (.int (3 : Int32))]) rfl ?_
              exact J242 (T114, _, (3 : Int32)) ⟨X114.more (by decide) (by decide), hh114, N114, (show (3 : Int32) = own_ei 3 (3 : Int32) v107 (2 : Int32) v106 (2 : Int32) from (by unfold own_ei; first | (exfalso; omega) | (rw [if_pos (by omega)]) | (rw [if_neg (by omega)])))⟩
        intro J179
        refine g_iload Xj160 hx hby at_166 (pc' := 168) rfl rfl ?_
        refine g_iconst Xj160 hx hby at_168 (pc' := 169) rfl (z := (2 : Int32)) rfl ?_
        refine g_iand Xj160 hx hby at_169 (pc' := 170) rfl rfl ?_
        by_cases hc170 : (v106 &&& (2 : Int32)).toInt = (0 : Int)
        · refine g_ifYes Xj160 hx hby at_170 (pc' := 179) (teq (show (v106 &&& (2 : Int32)) = (0 : Int32) from Int32.toInt_inj.mp hc170)).1 (by decide) (by decide) ?_
          exact J179 (Tj160, _, hj160, ga0, gb0, ca0) ⟨Xj160.more (by decide) (by decide), ej160, Nj160, zj160, fj160_0, fj160_1, fj160_2, fj160_3, fj160_4, fj160_5, fj160_6, (show ga0 = own_rm ga0 v106 (2 : Int32) 1 from (by unfold own_rm; rw [if_pos hc170]))⟩
        · refine g_ifNo Xj160 hx hby at_170 (pc' := 173) (feq (show ¬ ((v106 &&& (2 : Int32)) = (0 : Int32)) from fun q => hc170 (congrArg Int32.toInt q))).1 rfl ?_
          refine g_aload Xj160 hx hby at_173 (pc' := 175) rfl rfl rfl ?_
          refine g_iconst Xj160 hx hby at_175 (pc' := 176) rfl (z := (1 : Int32)) rfl ?_
          refine Go.callV Xj160 hx hZ (y := (⟨"com/example/edgewise/edgewise/EdgeSlots", "remove", "(I)V"⟩ : MethodName)) (z := (⟨"com/example/edgewise/edgewise/EdgeSlots", "remove", "(I)V"⟩ : MethodName)) hown (wi hw 85 rfl) (wi hw 86 rfl) (notFace_of_selects (args := #[]) (mvT hZ (wi hw 88 rfl))) (wi hw 88 rfl) (wi hw 87 rfl) (wi hw 3 rfl) (wi hw 89 rfl) (by decide) ej160 (a := oa) (argsL := [(.int (1 : Int32))]) (rest := []) (W := 0) fj160_0 (rm_remove4 l Z a0 hw oa (1 : Int32) xa xb ga0 gb0 (2 : Int32) ca0 1 hj160 n0 zj160 fj160_0 fj160_1 fj160_2 fj160_5 fj160_6 fj160_3 fj160_4 ne1 ne2 ne3 ge1 ge2 ge3 rfl (by decide)) (hb hby at_176) (by rw [hml]; rfl) rfl pd_aIzV rfl rfl (by decide) (by decide) (by decide) (by decide) ?_
          intro v115 T115 L115 X115 hQ115
          obtain ⟨h115, e115⟩ : ∃ z, T115.heap = z := ⟨_, rfl⟩
          rw [e115] at hQ115
          obtain ⟨rfl, Nq115, Kq115, Fq0_115, Fq1_115, Fq2_115, Fq3_115, Fq4_115, Fq5_115⟩ := hQ115
          have N115 := Fr.app Nj160 Nq115
          show Go p.tables e below s _ _ _ (T115.setTop (mkF m 179 #[.val (.int p1), .val (.int p2), .val (.int p3), .val (.int p4), .val (.int p5), .val (.int p6), .val (.int (2 : Int32)), .val (.int v106), .val (.int v107), .val (.int v108), .val (.int v109), .val (.int fl), .val (.ref oa), .unset] []))
          have f116 := fj160_0.keep Kq115
          exact J179 (T115, _, h115, (upI ga0 1 (-1 : Int32)), (upI gb0 1 (-1 : Int32)), (ca0 - (1 : Int32))) ⟨X115.more (by decide) (by decide), e115, N115, (Nat.le_trans zj160 Kq115.1), f116, Fq0_115, Fq1_115, Fq4_115, Fq5_115, Fq2_115, Fq3_115, (show (upI ga0 1 (-1 : Int32)) = own_rm ga0 v106 (2 : Int32) 1 from (by unfold own_rm; rw [if_neg hc170]))⟩
      intro J160
      refine g_iload Xj142 hx hby at_147 (pc' := 149) rfl rfl ?_
      refine g_iconst Xj142 hx hby at_149 (pc' := 150) rfl (z := (1 : Int32)) rfl ?_
      refine g_iand Xj142 hx hby at_150 (pc' := 151) rfl rfl ?_
      by_cases hc151 : (v106 &&& (1 : Int32)).toInt = (0 : Int)
      · refine g_ifYes Xj142 hx hby at_151 (pc' := 160) (teq (show (v106 &&& (1 : Int32)) = (0 : Int32) from Int32.toInt_inj.mp hc151)).1 (by decide) (by decide) ?_
        exact J160 (Tj142, _, hj142, (upI (upI (fun _ => (0 : Int32)) 0 v108) 1 v109), (upI (upI (fun _ => (0 : Int32)) 0 v109) 1 v108), (2 : Int32)) ⟨Xj142.more (by decide) (by decide), ej142, Nj142, zj142, fj142_0, fj142_1, fj142_2, fj142_3, fj142_4, fj142_5, fj142_6, (show (upI (upI (fun _ => (0 : Int32)) 0 v108) 1 v109) = own_rm (upI (upI (fun _ => (0 : Int32)) 0 v108) 1 v109) v106 (1 : Int32) 0 from (by unfold own_rm; rw [if_pos hc151]))⟩
      · refine g_ifNo Xj142 hx hby at_151 (pc' := 154) (feq (show ¬ ((v106 &&& (1 : Int32)) = (0 : Int32)) from fun q => hc151 (congrArg Int32.toInt q))).1 rfl ?_
        refine g_aload Xj142 hx hby at_154 (pc' := 156) rfl rfl rfl ?_
        refine g_iconst Xj142 hx hby at_156 (pc' := 157) rfl (z := (0 : Int32)) rfl ?_
        refine Go.callV Xj142 hx hZ (y := (⟨"com/example/edgewise/edgewise/EdgeSlots", "remove", "(I)V"⟩ : MethodName)) (z := (⟨"com/example/edgewise/edgewise/EdgeSlots", "remove", "(I)V"⟩ : MethodName)) hown (wi hw 85 rfl) (wi hw 86 rfl) (notFace_of_selects (args := #[]) (mvT hZ (wi hw 88 rfl))) (wi hw 88 rfl) (wi hw 87 rfl) (wi hw 3 rfl) (wi hw 89 rfl) (by decide) ej142 (a := oa) (argsL := [(.int (0 : Int32))]) (rest := []) (W := 0) fj142_0 (rm_remove4 l Z a0 hw oa (0 : Int32) xa xb (upI (upI (fun _ => (0 : Int32)) 0 v108) 1 v109) (upI (upI (fun _ => (0 : Int32)) 0 v109) 1 v108) (2 : Int32) (2 : Int32) 0 hj142 n0 zj142 fj142_0 fj142_1 fj142_2 fj142_5 fj142_6 fj142_3 fj142_4 ne1 ne2 ne3 ge1 ge2 ge3 rfl (by decide)) (hb hby at_157) (by rw [hml]; rfl) rfl pd_aIzV rfl rfl (by decide) (by decide) (by decide) (by decide) ?_
        intro v117 T117 L117 X117 hQ117
        obtain ⟨h117, e117⟩ : ∃ z, T117.heap = z := ⟨_, rfl⟩
        rw [e117] at hQ117
        obtain ⟨rfl, Nq117, Kq117, Fq0_117, Fq1_117, Fq2_117, Fq3_117, Fq4_117, Fq5_117⟩ := hQ117
        have N117 := Fr.app Nj142 Nq117
        have Fq5_117 : Fld Z h117 oa "com/example/edgewise/edgewise/EdgeSlots" "count" "I" (.int (1 : Int32)) := Fq5_117
        show Go p.tables e below s _ _ _ (T117.setTop (mkF m 160 #[.val (.int p1), .val (.int p2), .val (.int p3), .val (.int p4), .val (.int p5), .val (.int p6), .val (.int (2 : Int32)), .val (.int v106), .val (.int v107), .val (.int v108), .val (.int v109), .val (.int fl), .val (.ref oa), .unset] []))
        have f118 := fj142_0.keep Kq117
        exact J160 (T117, _, h117, (upI (upI (upI (fun _ => (0 : Int32)) 0 v108) 1 v109) 0 (-1 : Int32)), (upI (upI (upI (fun _ => (0 : Int32)) 0 v109) 1 v108) 0 (-1 : Int32)), (1 : Int32)) ⟨X117.more (by decide) (by decide), e117, N117, (Nat.le_trans zj142 Kq117.1), f118, Fq0_117, Fq1_117, Fq4_117, Fq5_117, Fq2_117, Fq3_117, (show (upI (upI (upI (fun _ => (0 : Int32)) 0 v108) 1 v109) 0 (-1 : Int32)) = own_rm (upI (upI (fun _ => (0 : Int32)) 0 v108) 1 v109) v106 (1 : Int32) 0 from (by unfold own_rm; rw [if_neg hc151]))⟩
    intro J142
    refine g_iload X0 hx hby at_38 (pc' := 40) rfl rfl ?_
    refine g_iconst X0 hx hby at_40 (pc' := 41) rfl (z := (1 : Int32)) rfl ?_
    refine g_iand X0 hx hby at_41 (pc' := 42) rfl rfl ?_
    by_cases hc42 : (p6 &&& (1 : Int32)).toInt = (0 : Int)
    · refine g_ifYes X0 hx hby at_42 (pc' := 49) (teq (show (p6 &&& (1 : Int32)) = (0 : Int32) from Int32.toInt_inj.mp hc42)).1 (by decide) (by decide) ?_
      refine g_iconst X0 hx hby at_49 (pc' := 50) rfl (z := (0 : Int32)) rfl ?_
      refine g_istore X0 hx hby at_50 (pc' := 52) rfl (L' := #[.val (.int p1), .val (.int p2), .val (.int p3), .val (.int p4), .val (.int p5), .val (.int p6), .val (.int (2 : Int32)), .val (.int v106), .val (.int v107), .val (.int v108), .val (.int v109), .val (.int (0 : Int32)), .unset, .unset]) rfl ?_
      have hk0 : True := trivial
      refine g_new X0 hx hby hZ hown (wi hw 1 rfl) (wi hw 2 rfl) (wi hw 3 rfl) e0 at_52 (pc' := 55) rfl (by decide) (by decide) ?_
      intro T119 h119 b119 X119 e119 E119 hb119 A119 D119
      have g120 : n0 ≤ b119 := by rw [hb119]; exact Z0
      have F121 : Fld Z h119 b119 "com/example/edgewise/edgewise/EdgeSlots" "sources" "[I" .null := D119 (Or.inl (wi hw 12 rfl)) (ty := (.array .int)) (by decide)
      have F122 : Fld Z h119 b119 "com/example/edgewise/edgewise/EdgeSlots" "targets" "[I" .null := D119 (Or.inl (wi hw 14 rfl)) (ty := (.array .int)) (by decide)
      have F123 : Fld Z h119 b119 "com/example/edgewise/edgewise/EdgeSlots" "sourcePositions" "[I" .null := D119 (Or.inl (wi hw 16 rfl)) (ty := (.array .int)) (by decide)
      have F124 : Fld Z h119 b119 "com/example/edgewise/edgewise/EdgeSlots" "targetPositions" "[I" .null := D119 (Or.inl (wi hw 18 rfl)) (ty := (.array .int)) (by decide)
      have F125 : Fld Z h119 b119 "com/example/edgewise/edgewise/EdgeSlots" "weights" "[D" .null := D119 (Or.inl (wi hw 21 rfl)) (ty := (.array .double)) (by decide)
      have F126 : Fld Z h119 b119 "com/example/edgewise/edgewise/EdgeSlots" "keys" "[I" .null := D119 (Or.inl (wi hw 23 rfl)) (ty := (.array .int)) (by decide)
      have F127 : Fld Z h119 b119 "com/example/edgewise/edgewise/EdgeSlots" "keptNumbers" "[J" .null := D119 (Or.inl (wi hw 26 rfl)) (ty := (.array .long)) (by decide)
      have F128 : Fld Z h119 b119 "com/example/edgewise/edgewise/EdgeSlots" "keyed" "Z" (.int (0 : Int32)) := D119 (Or.inr (wi hw 28 rfl)) (ty := .boolean) (by decide)
      have F129 : Fld Z h119 b119 "com/example/edgewise/edgewise/EdgeSlots" "bound" "I" (.int (0 : Int32)) := D119 (Or.inl (wi hw 39 rfl)) (ty := .int) (by decide)
      have F130 : Fld Z h119 b119 "com/example/edgewise/edgewise/EdgeSlots" "count" "I" (.int (0 : Int32)) := D119 (Or.inl (wi hw 79 rfl)) (ty := .int) (by decide)
      have F131 : Fld Z h119 b119 "com/example/edgewise/edgewise/EdgeSlots" "nextNumber" "J" (.long (0 : Int64)) := D119 (Or.inl (wi hw 81 rfl)) (ty := .long) (by decide)
      refine g_dup X119 hx hby at_55 (pc' := 56) rfl rfl ?_
      refine g_iload X119 hx hby at_56 (pc' := 58) rfl rfl ?_
      refine Go.callI X119 hx hZ (y := (⟨"com/example/edgewise/edgewise/EdgeSlots", "<init>", "(Z)V"⟩ : MethodName)) hown rfl (wi hw 4 rfl) (wi hw 5 rfl) (wi hw 3 rfl) (wi hw 6 rfl) (by decide) e119 (a := b119) (argsL := [(.int (0 : Int32))]) (rest := [(.ref b119)]) (W := 1) (rm_init0 l Z a0 hw b119 h119 n0 (Nat.le_trans Z0 E119.1) A119 F121 F122 F123 F124 F125 F126 F127 F128 F129 F130 F131 g120) (hb hby at_58) (by rw [hml]; rfl) rfl pd_aZzV rfl rfl (by decide) (by decide) (by decide) (by decide) ?_
      intro v132 T132 L132 X132 hQ132
      obtain ⟨h132, e132⟩ : ∃ z, T132.heap = z := ⟨_, rfl⟩
      rw [e132] at hQ132
      obtain ⟨b1_132, b2_132, b3_132, b4_132, b5_132, b6_132, b7_132, rfl, Nq132, Kq132, gqb1_132, sqb1_132, gqb2_132, sqb2_132, gqb3_132, sqb3_132, gqb4_132, sqb4_132, gqb5_132, sqb5_132, gqb6_132, sqb6_132, gqb7_132, sqb7_132, nqb1_b2_132, nqb1_b3_132, nqb1_b4_132, nqb1_b5_132, nqb1_b6_132, nqb1_b7_132, nqb2_b3_132, nqb2_b4_132, nqb2_b5_132, nqb2_b6_132, nqb2_b7_132, nqb3_b4_132, nqb3_b5_132, nqb3_b6_132, nqb3_b7_132, nqb4_b5_132, nqb4_b6_132, nqb4_b7_132, nqb5_b6_132, nqb5_b7_132, nqb6_b7_132, Fq0_132, Fq1_132, Fq2_132, Fq3_132, Fq4_132, Fq5_132, Fq6_132, Fq7_132, Fq8_132, Fq9_132, Fq10_132, Fq11_132, Fq12_132, Fq13_132, Fq14_132, Fq15_132, Fq16_132, Fq17_132⟩ := hQ132
      have N132 := Fr.app N0 Nq132
      show Go p.tables e below s _ _ _ (T132.setTop (mkF m 61 #[.val (.int p1), .val (.int p2), .val (.int p3), .val (.int p4), .val (.int p5), .val (.int p6), .val (.int (2 : Int32)), .val (.int v106), .val (.int v107), .val (.int v108), .val (.int v109), .val (.int (0 : Int32)), .unset, .unset] [(.ref b119)]))
      refine g_astore X132 hx hby at_61 (pc' := 63) rfl rfl (L' := #[.val (.int p1), .val (.int p2), .val (.int p3), .val (.int p4), .val (.int p5), .val (.int p6), .val (.int (2 : Int32)), .val (.int v106), .val (.int v107), .val (.int v108), .val (.int v109), .val (.int (0 : Int32)), .val (.ref b119), .unset]) rfl ?_
      refine g_iload X132 hx hby at_63 (pc' := 65) rfl rfl ?_
      have hc65 : (0 : Int) < (2 : Int) := by decide
      refine g_ifNo X132 hx hby at_65 (pc' := 68) (tlt (show (0 : Int32) < (2 : Int32) from Int32.lt_iff_toInt_lt.mpr hc65)).2.2.2 rfl ?_
      refine g_aload X132 hx hby at_68 (pc' := 70) rfl rfl rfl ?_
      refine g_iload X132 hx hby at_70 (pc' := 72) rfl rfl ?_
      refine g_iload X132 hx hby at_72 (pc' := 74) rfl rfl ?_
      refine Go.of (fun _ k => XS.dconst1 X132.here hx rfl (hb hby at_74) (v := FP.dconst1) rfl k) ?_
      show Go p.tables e below s _ _ _ (T132.setTop (mkF m 75 #[.val (.int p1), .val (.int p2), .val (.int p3), .val (.int p4), .val (.int p5), .val (.int p6), .val (.int (2 : Int32)), .val (.int v106), .val (.int v107), .val (.int v108), .val (.int v109), .val (.int (0 : Int32)), .val (.ref b119), .unset] [(.double FP.dconst1), (.int v109), (.int v108), (.ref b119)]))
      refine g_iload X132 hx hby at_75 (pc' := 77) rfl rfl ?_
      have f134 := A119.keep Kq132
      have ne135 : b119 ≠ b1_132 := Nat.ne_of_lt (Nat.lt_of_lt_of_le F131.lt sqb1_132)
      have ne136 : b119 ≠ b2_132 := Nat.ne_of_lt (Nat.lt_of_lt_of_le F131.lt sqb2_132)
      have ne137 : b119 ≠ b3_132 := Nat.ne_of_lt (Nat.lt_of_lt_of_le F131.lt sqb3_132)
      have ne138 : b119 ≠ b4_132 := Nat.ne_of_lt (Nat.lt_of_lt_of_le F131.lt sqb4_132)
      have ne139 : b119 ≠ b5_132 := Nat.ne_of_lt (Nat.lt_of_lt_of_le F131.lt sqb5_132)
      have ne140 : b119 ≠ b6_132 := Nat.ne_of_lt (Nat.lt_of_lt_of_le F131.lt sqb6_132)
      refine Go.callV X132 hx hZ (y := (⟨"com/example/edgewise/edgewise/EdgeSlots", "add", "(IIDI)I"⟩ : MethodName)) (z := (⟨"com/example/edgewise/edgewise/EdgeSlots", "add", "(IIDI)I"⟩ : MethodName)) hown (wi hw 40 rfl) (wi hw 41 rfl) (notFace_of_selects (args := #[]) (mvT hZ (wi hw 43 rfl))) (wi hw 43 rfl) (wi hw 42 rfl) (wi hw 3 rfl) (wi hw 44 rfl) (by decide) e132 (a := b119) (argsL := [(.int v108), (.int v109), (.double FP.dconst1), (.int v108)]) (rest := []) (W := 0) f134 (rm_addA0 l Z a0 hw b119 v108 v109 FP.dconst1 v108 b1_132 b2_132 b3_132 b4_132 b5_132 b6_132 b7_132 (fun _ => (0 : Int32)) (fun _ => (0 : Int32)) (fun _ => (0 : Int32)) (fun _ => (0 : Int32)) (fun _ => (0 : UInt64)) (fun _ => (0 : Int32)) (0 : Int32) (0 : Int64) h132 n0 (Nat.le_trans (Nat.le_trans Z0 E119.1) Kq132.1) f134 Fq7_132 Fq6_132 Fq0_132 Fq1_132 Fq2_132 Fq3_132 Fq4_132 Fq5_132 Fq11_132 Fq12_132 Fq13_132 Fq14_132 Fq15_132 Fq16_132 Fq8_132 Fq9_132 Fq10_132 (Ne.symm ne135) (Ne.symm ne136) (Ne.symm ne137) (Ne.symm ne138) (Ne.symm ne139) (Ne.symm ne140) g120) (hb hby at_77) (by rw [hml]; rfl) rfl pd_aIIDIzI rfl rfl (by decide) (by decide) (by decide) (by decide) ?_
      intro v133 T133 L133 X133 hQ133
      obtain ⟨h133, e133⟩ : ∃ z, T133.heap = z := ⟨_, rfl⟩
      rw [e133] at hQ133
      obtain ⟨b1_133, b2_133, b3_133, b4_133, b5_133, rfl, Nq133, Kq133, gqb1_133, sqb1_133, gqb2_133, sqb2_133, gqb3_133, sqb3_133, gqb4_133, sqb4_133, gqb5_133, sqb5_133, nqb1_b2_133, nqb1_b3_133, nqb1_b4_133, nqb1_b5_133, nqb2_b3_133, nqb2_b4_133, nqb2_b5_133, nqb3_b4_133, nqb3_b5_133, nqb4_b5_133, Fq0_133, Fq1_133, Fq2_133, Fq3_133, Fq4_133, Fq5_133, Fq6_133, Fq7_133, Fq8_133, Fq9_133, Fq10_133, Fq11_133, Fq12_133, Fq13_133, Fq14_133, Fq15_133⟩ := hQ133
      have N133 := Fr.app N132 Nq133
      have Fq9_133 : Fld Z h133 b119 "com/example/edgewise/edgewise/EdgeSlots" "count" "I" (.int (1 : Int32)) := Fq9_133
      have Fq10_133 : Fld Z h133 b119 "com/example/edgewise/edgewise/EdgeSlots" "nextNumber" "J" (.long (1 : Int64)) := Fq10_133
      show Go p.tables e below s _ _ _ (T133.setTop (mkF m 80 #[.val (.int p1), .val (.int p2), .val (.int p3), .val (.int p4), .val (.int p5), .val (.int p6), .val (.int (2 : Int32)), .val (.int v106), .val (.int v107), .val (.int v108), .val (.int v109), .val (.int (0 : Int32)), .val (.ref b119), .unset] [(.int (0 : Int32))]))
      refine g_pop X133 hx hby at_80 (pc' := 81) rfl rfl ?_
      refine g_iload X133 hx hby at_81 (pc' := 83) rfl rfl ?_
      refine g_iconst X133 hx hby at_83 (pc' := 84) rfl (z := (1 : Int32)) rfl ?_
      have hc84 : (1 : Int) < (2 : Int) := by decide
      refine g_icmpNo X133 hx hby at_84 (pc' := 87) (tlt (show (1 : Int32) < (2 : Int32) from Int32.lt_iff_toInt_lt.mpr hc84)).2.2.2 rfl ?_
      refine g_aload X133 hx hby at_87 (pc' := 89) rfl rfl rfl ?_
      refine g_iload X133 hx hby at_89 (pc' := 91) rfl rfl ?_
      refine g_iload X133 hx hby at_91 (pc' := 93) rfl rfl ?_
      refine g_ldcD X133 hx hby hZ hown (wi hw 82 rfl) at_93 (pc' := 96) rfl ?_
      refine g_iload X133 hx hby at_96 (pc' := 98) rfl rfl ?_
      have f142 := f134.keep Kq133
      have ne143 : b119 ≠ b1_133 := Nat.ne_of_lt (Nat.lt_of_lt_of_le f134.lt sqb1_133)
      have ne144 : b119 ≠ b2_133 := Nat.ne_of_lt (Nat.lt_of_lt_of_le f134.lt sqb2_133)
      have ne145 : b119 ≠ b5_133 := Nat.ne_of_lt (Nat.lt_of_lt_of_le f134.lt sqb5_133)
      refine Go.callV X133 hx hZ (y := (⟨"com/example/edgewise/edgewise/EdgeSlots", "add", "(IIDI)I"⟩ : MethodName)) (z := (⟨"com/example/edgewise/edgewise/EdgeSlots", "add", "(IIDI)I"⟩ : MethodName)) hown (wi hw 40 rfl) (wi hw 41 rfl) (notFace_of_selects (args := #[]) (mvT hZ (wi hw 43 rfl))) (wi hw 43 rfl) (wi hw 42 rfl) (wi hw 3 rfl) (wi hw 44 rfl) (by decide) e133 (a := b119) (argsL := [(.int v109), (.int v108), (.double (4611686018427387904 : UInt64)), (.int v109)]) (rest := []) (W := 0) f142 (rm_addB0 l Z a0 hw b119 v109 v108 (4611686018427387904 : UInt64) v109 b1_133 b2_133 b3_133 b4_133 b5_133 b6_132 b7_132 (upI (fun _ => (0 : Int32)) 0 v108) (upI (fun _ => (0 : Int32)) 0 v109) (upD (fun _ => (0 : UInt64)) 0 FP.dconst1) (1 : Int32) (1 : Int32) (1 : Int64) 1 h133 n0 (Nat.le_trans (Nat.le_trans (Nat.le_trans Z0 E119.1) Kq132.1) Kq133.1) f142 Fq0_133 Fq1_133 Fq2_133 Fq3_133 Fq4_133 Fq5_133 Fq6_133 Fq7_133 Fq11_133 Fq12_133 Fq15_133 Fq8_133 Fq9_133 Fq10_133 (Ne.symm ne143) (Ne.symm ne144) (Ne.symm ne145) nqb1_b2_133 nqb1_b5_133 nqb2_b5_133 g120 gqb1_133 gqb2_133 gqb5_133 rfl (by decide)) (hb hby at_98) (by rw [hml]; rfl) rfl pd_aIIDIzI rfl rfl (by decide) (by decide) (by decide) (by decide) ?_
      intro v141 T141 L141 X141 hQ141
      obtain ⟨h141, e141⟩ : ∃ z, T141.heap = z := ⟨_, rfl⟩
      rw [e141] at hQ141
      obtain ⟨rfl, Nq141, Kq141, Fq0_141, Fq1_141, Fq2_141, Fq3_141, Fq4_141, Fq5_141, Fq6_141, Fq7_141, Fq8_141, Fq9_141, Fq10_141, Fq11_141, Fq12_141, Fq13_141⟩ := hQ141
      have N141 := Fr.app N133 Nq141
      have Fq8_141 : Fld Z h141 b119 "com/example/edgewise/edgewise/EdgeSlots" "bound" "I" (.int (2 : Int32)) := Fq8_141
      have Fq9_141 : Fld Z h141 b119 "com/example/edgewise/edgewise/EdgeSlots" "count" "I" (.int (2 : Int32)) := Fq9_141
      have Fq10_141 : Fld Z h141 b119 "com/example/edgewise/edgewise/EdgeSlots" "nextNumber" "J" (.long (2 : Int64)) := Fq10_141
      show Go p.tables e below s _ _ _ (T141.setTop (mkF m 101 #[.val (.int p1), .val (.int p2), .val (.int p3), .val (.int p4), .val (.int p5), .val (.int p6), .val (.int (2 : Int32)), .val (.int v106), .val (.int v107), .val (.int v108), .val (.int v109), .val (.int (0 : Int32)), .val (.ref b119), .unset] [(.int (1 : Int32))]))
      refine g_pop X141 hx hby at_101 (pc' := 102) rfl rfl ?_
      refine g_iload X141 hx hby at_102 (pc' := 104) rfl rfl ?_
      refine g_iconst X141 hx hby at_104 (pc' := 105) rfl (z := (2 : Int32)) rfl ?_
      have hc105 : ¬ ((2 : Int) < (2 : Int)) := by decide
      refine g_icmpYes X141 hx hby at_105 (pc' := 122) (flt (show ¬ ((2 : Int32) < (2 : Int32)) from fun q => hc105 (Int32.lt_iff_toInt_lt.mp q))).2.2.2 (by decide) (by decide) ?_
      refine g_iload X141 hx hby at_122 (pc' := 124) rfl rfl ?_
      refine g_iconst X141 hx hby at_124 (pc' := 125) rfl (z := (3 : Int32)) rfl ?_
      have hc125 : ¬ ((3 : Int) < (2 : Int)) := by decide
      refine g_icmpYes X141 hx hby at_125 (pc' := 142) (flt (show ¬ ((3 : Int32) < (2 : Int32)) from fun q => hc125 (Int32.lt_iff_toInt_lt.mp q))).2.2.2 (by decide) (by decide) ?_
      have f146 := f142.keep Kq141
      exact J142 (T141, _, h141, (0 : Int32), b119, b1_133, b2_133) ⟨X141.more (by decide) (by decide), e141, N141, (Nat.le_trans (Nat.le_trans (Nat.le_trans (Nat.le_trans Z0 E119.1) Kq132.1) Kq133.1) Kq141.1), f146, Fq2_141, Fq3_141, Fq8_141, Fq9_141, Fq11_141, Fq12_141, (show b1_133 ≠ b119 ∧ b2_133 ≠ b119 ∧ b1_133 ≠ b2_133 ∧ n0 ≤ b119 ∧ n0 ≤ b1_133 ∧ n0 ≤ b2_133 from ⟨(Ne.symm ne143), (Ne.symm ne144), nqb1_b2_133, g120, gqb1_133, gqb2_133⟩)⟩
    · refine g_ifNo X0 hx hby at_42 (pc' := 45) (feq (show ¬ ((p6 &&& (1 : Int32)) = (0 : Int32)) from fun q => hc42 (congrArg Int32.toInt q))).1 rfl ?_
      refine g_iconst X0 hx hby at_45 (pc' := 46) rfl (z := (1 : Int32)) rfl ?_
      refine g_goto X0 hx hby at_46 (pc' := 50) (by decide) (by decide) ?_
      refine g_istore X0 hx hby at_50 (pc' := 52) rfl (L' := #[.val (.int p1), .val (.int p2), .val (.int p3), .val (.int p4), .val (.int p5), .val (.int p6), .val (.int (2 : Int32)), .val (.int v106), .val (.int v107), .val (.int v108), .val (.int v109), .val (.int (1 : Int32)), .unset, .unset]) rfl ?_
      have hk0 : True := trivial
      refine g_new X0 hx hby hZ hown (wi hw 1 rfl) (wi hw 2 rfl) (wi hw 3 rfl) e0 at_52 (pc' := 55) rfl (by decide) (by decide) ?_
      intro T147 h147 b147 X147 e147 E147 hb147 A147 D147
      have g148 : n0 ≤ b147 := by rw [hb147]; exact Z0
      have F149 : Fld Z h147 b147 "com/example/edgewise/edgewise/EdgeSlots" "sources" "[I" .null := D147 (Or.inl (wi hw 12 rfl)) (ty := (.array .int)) (by decide)
      have F150 : Fld Z h147 b147 "com/example/edgewise/edgewise/EdgeSlots" "targets" "[I" .null := D147 (Or.inl (wi hw 14 rfl)) (ty := (.array .int)) (by decide)
      have F151 : Fld Z h147 b147 "com/example/edgewise/edgewise/EdgeSlots" "sourcePositions" "[I" .null := D147 (Or.inl (wi hw 16 rfl)) (ty := (.array .int)) (by decide)
      have F152 : Fld Z h147 b147 "com/example/edgewise/edgewise/EdgeSlots" "targetPositions" "[I" .null := D147 (Or.inl (wi hw 18 rfl)) (ty := (.array .int)) (by decide)
      have F153 : Fld Z h147 b147 "com/example/edgewise/edgewise/EdgeSlots" "weights" "[D" .null := D147 (Or.inl (wi hw 21 rfl)) (ty := (.array .double)) (by decide)
      have F154 : Fld Z h147 b147 "com/example/edgewise/edgewise/EdgeSlots" "keys" "[I" .null := D147 (Or.inl (wi hw 23 rfl)) (ty := (.array .int)) (by decide)
      have F155 : Fld Z h147 b147 "com/example/edgewise/edgewise/EdgeSlots" "keptNumbers" "[J" .null := D147 (Or.inl (wi hw 26 rfl)) (ty := (.array .long)) (by decide)
      have F156 : Fld Z h147 b147 "com/example/edgewise/edgewise/EdgeSlots" "keyed" "Z" (.int (0 : Int32)) := D147 (Or.inr (wi hw 28 rfl)) (ty := .boolean) (by decide)
      have F157 : Fld Z h147 b147 "com/example/edgewise/edgewise/EdgeSlots" "bound" "I" (.int (0 : Int32)) := D147 (Or.inl (wi hw 39 rfl)) (ty := .int) (by decide)
      have F158 : Fld Z h147 b147 "com/example/edgewise/edgewise/EdgeSlots" "count" "I" (.int (0 : Int32)) := D147 (Or.inl (wi hw 79 rfl)) (ty := .int) (by decide)
      have F159 : Fld Z h147 b147 "com/example/edgewise/edgewise/EdgeSlots" "nextNumber" "J" (.long (0 : Int64)) := D147 (Or.inl (wi hw 81 rfl)) (ty := .long) (by decide)
      refine g_dup X147 hx hby at_55 (pc' := 56) rfl rfl ?_
      refine g_iload X147 hx hby at_56 (pc' := 58) rfl rfl ?_
      refine Go.callI X147 hx hZ (y := (⟨"com/example/edgewise/edgewise/EdgeSlots", "<init>", "(Z)V"⟩ : MethodName)) hown rfl (wi hw 4 rfl) (wi hw 5 rfl) (wi hw 3 rfl) (wi hw 6 rfl) (by decide) e147 (a := b147) (argsL := [(.int (1 : Int32))]) (rest := [(.ref b147)]) (W := 1) (rm_init1 l Z a0 hw b147 h147 n0 (Nat.le_trans Z0 E147.1) A147 F149 F150 F151 F152 F153 F154 F155 F156 F157 F158 F159 g148) (hb hby at_58) (by rw [hml]; rfl) rfl pd_aZzV rfl rfl (by decide) (by decide) (by decide) (by decide) ?_
      intro v160 T160 L160 X160 hQ160
      obtain ⟨h160, e160⟩ : ∃ z, T160.heap = z := ⟨_, rfl⟩
      rw [e160] at hQ160
      obtain ⟨b1_160, b2_160, b3_160, b4_160, b5_160, b6_160, b7_160, rfl, Nq160, Kq160, gqb1_160, sqb1_160, gqb2_160, sqb2_160, gqb3_160, sqb3_160, gqb4_160, sqb4_160, gqb5_160, sqb5_160, gqb6_160, sqb6_160, gqb7_160, sqb7_160, nqb1_b2_160, nqb1_b3_160, nqb1_b4_160, nqb1_b5_160, nqb1_b6_160, nqb1_b7_160, nqb2_b3_160, nqb2_b4_160, nqb2_b5_160, nqb2_b6_160, nqb2_b7_160, nqb3_b4_160, nqb3_b5_160, nqb3_b6_160, nqb3_b7_160, nqb4_b5_160, nqb4_b6_160, nqb4_b7_160, nqb5_b6_160, nqb5_b7_160, nqb6_b7_160, Fq0_160, Fq1_160, Fq2_160, Fq3_160, Fq4_160, Fq5_160, Fq6_160, Fq7_160, Fq8_160, Fq9_160, Fq10_160, Fq11_160, Fq12_160, Fq13_160, Fq14_160, Fq15_160, Fq16_160, Fq17_160⟩ := hQ160
      have N160 := Fr.app N0 Nq160
      show Go p.tables e below s _ _ _ (T160.setTop (mkF m 61 #[.val (.int p1), .val (.int p2), .val (.int p3), .val (.int p4), .val (.int p5), .val (.int p6), .val (.int (2 : Int32)), .val (.int v106), .val (.int v107), .val (.int v108), .val (.int v109), .val (.int (1 : Int32)), .unset, .unset] [(.ref b147)]))
      refine g_astore X160 hx hby at_61 (pc' := 63) rfl rfl (L' := #[.val (.int p1), .val (.int p2), .val (.int p3), .val (.int p4), .val (.int p5), .val (.int p6), .val (.int (2 : Int32)), .val (.int v106), .val (.int v107), .val (.int v108), .val (.int v109), .val (.int (1 : Int32)), .val (.ref b147), .unset]) rfl ?_
      refine g_iload X160 hx hby at_63 (pc' := 65) rfl rfl ?_
      have hc65 : (0 : Int) < (2 : Int) := by decide
      refine g_ifNo X160 hx hby at_65 (pc' := 68) (tlt (show (0 : Int32) < (2 : Int32) from Int32.lt_iff_toInt_lt.mpr hc65)).2.2.2 rfl ?_
      refine g_aload X160 hx hby at_68 (pc' := 70) rfl rfl rfl ?_
      refine g_iload X160 hx hby at_70 (pc' := 72) rfl rfl ?_
      refine g_iload X160 hx hby at_72 (pc' := 74) rfl rfl ?_
      refine Go.of (fun _ k => XS.dconst1 X160.here hx rfl (hb hby at_74) (v := FP.dconst1) rfl k) ?_
      show Go p.tables e below s _ _ _ (T160.setTop (mkF m 75 #[.val (.int p1), .val (.int p2), .val (.int p3), .val (.int p4), .val (.int p5), .val (.int p6), .val (.int (2 : Int32)), .val (.int v106), .val (.int v107), .val (.int v108), .val (.int v109), .val (.int (1 : Int32)), .val (.ref b147), .unset] [(.double FP.dconst1), (.int v109), (.int v108), (.ref b147)]))
      refine g_iload X160 hx hby at_75 (pc' := 77) rfl rfl ?_
      have f162 := A147.keep Kq160
      have ne163 : b147 ≠ b1_160 := Nat.ne_of_lt (Nat.lt_of_lt_of_le F159.lt sqb1_160)
      have ne164 : b147 ≠ b2_160 := Nat.ne_of_lt (Nat.lt_of_lt_of_le F159.lt sqb2_160)
      have ne165 : b147 ≠ b3_160 := Nat.ne_of_lt (Nat.lt_of_lt_of_le F159.lt sqb3_160)
      have ne166 : b147 ≠ b4_160 := Nat.ne_of_lt (Nat.lt_of_lt_of_le F159.lt sqb4_160)
      have ne167 : b147 ≠ b5_160 := Nat.ne_of_lt (Nat.lt_of_lt_of_le F159.lt sqb5_160)
      have ne168 : b147 ≠ b6_160 := Nat.ne_of_lt (Nat.lt_of_lt_of_le F159.lt sqb6_160)
      refine Go.callV X160 hx hZ (y := (⟨"com/example/edgewise/edgewise/EdgeSlots", "add", "(IIDI)I"⟩ : MethodName)) (z := (⟨"com/example/edgewise/edgewise/EdgeSlots", "add", "(IIDI)I"⟩ : MethodName)) hown (wi hw 40 rfl) (wi hw 41 rfl) (notFace_of_selects (args := #[]) (mvT hZ (wi hw 43 rfl))) (wi hw 43 rfl) (wi hw 42 rfl) (wi hw 3 rfl) (wi hw 44 rfl) (by decide) e160 (a := b147) (argsL := [(.int v108), (.int v109), (.double FP.dconst1), (.int v108)]) (rest := []) (W := 0) f162 (rm_addA1 l Z a0 hw b147 v108 v109 FP.dconst1 v108 b1_160 b2_160 b3_160 b4_160 b5_160 b6_160 b7_160 (fun _ => (0 : Int32)) (fun _ => (0 : Int32)) (fun _ => (0 : Int32)) (fun _ => (0 : Int32)) (fun _ => (0 : UInt64)) (fun _ => (0 : Int32)) (0 : Int32) (0 : Int64) h160 n0 (Nat.le_trans (Nat.le_trans Z0 E147.1) Kq160.1) f162 Fq7_160 Fq6_160 Fq0_160 Fq1_160 Fq2_160 Fq3_160 Fq4_160 Fq5_160 Fq11_160 Fq12_160 Fq13_160 Fq14_160 Fq15_160 Fq16_160 Fq8_160 Fq9_160 Fq10_160 (Ne.symm ne163) (Ne.symm ne164) (Ne.symm ne165) (Ne.symm ne166) (Ne.symm ne167) (Ne.symm ne168) g148) (hb hby at_77) (by rw [hml]; rfl) rfl pd_aIIDIzI rfl rfl (by decide) (by decide) (by decide) (by decide) ?_
      intro v161 T161 L161 X161 hQ161
      obtain ⟨h161, e161⟩ : ∃ z, T161.heap = z := ⟨_, rfl⟩
      rw [e161] at hQ161
      obtain ⟨b1_161, b2_161, b3_161, b4_161, b5_161, b6_161, rfl, Nq161, Kq161, gqb1_161, sqb1_161, gqb2_161, sqb2_161, gqb3_161, sqb3_161, gqb4_161, sqb4_161, gqb5_161, sqb5_161, gqb6_161, sqb6_161, nqb1_b2_161, nqb1_b3_161, nqb1_b4_161, nqb1_b5_161, nqb1_b6_161, nqb2_b3_161, nqb2_b4_161, nqb2_b5_161, nqb2_b6_161, nqb3_b4_161, nqb3_b5_161, nqb3_b6_161, nqb4_b5_161, nqb4_b6_161, nqb5_b6_161, Fq0_161, Fq1_161, Fq2_161, Fq3_161, Fq4_161, Fq5_161, Fq6_161, Fq7_161, Fq8_161, Fq9_161, Fq10_161, Fq11_161, Fq12_161, Fq13_161, Fq14_161, Fq15_161, Fq16_161⟩ := hQ161
      have N161 := Fr.app N160 Nq161
      have Fq9_161 : Fld Z h161 b147 "com/example/edgewise/edgewise/EdgeSlots" "count" "I" (.int (1 : Int32)) := Fq9_161
      have Fq10_161 : Fld Z h161 b147 "com/example/edgewise/edgewise/EdgeSlots" "nextNumber" "J" (.long (1 : Int64)) := Fq10_161
      show Go p.tables e below s _ _ _ (T161.setTop (mkF m 80 #[.val (.int p1), .val (.int p2), .val (.int p3), .val (.int p4), .val (.int p5), .val (.int p6), .val (.int (2 : Int32)), .val (.int v106), .val (.int v107), .val (.int v108), .val (.int v109), .val (.int (1 : Int32)), .val (.ref b147), .unset] [(.int (0 : Int32))]))
      refine g_pop X161 hx hby at_80 (pc' := 81) rfl rfl ?_
      refine g_iload X161 hx hby at_81 (pc' := 83) rfl rfl ?_
      refine g_iconst X161 hx hby at_83 (pc' := 84) rfl (z := (1 : Int32)) rfl ?_
      have hc84 : (1 : Int) < (2 : Int) := by decide
      refine g_icmpNo X161 hx hby at_84 (pc' := 87) (tlt (show (1 : Int32) < (2 : Int32) from Int32.lt_iff_toInt_lt.mpr hc84)).2.2.2 rfl ?_
      refine g_aload X161 hx hby at_87 (pc' := 89) rfl rfl rfl ?_
      refine g_iload X161 hx hby at_89 (pc' := 91) rfl rfl ?_
      refine g_iload X161 hx hby at_91 (pc' := 93) rfl rfl ?_
      refine g_ldcD X161 hx hby hZ hown (wi hw 82 rfl) at_93 (pc' := 96) rfl ?_
      refine g_iload X161 hx hby at_96 (pc' := 98) rfl rfl ?_
      have f170 := f162.keep Kq161
      have ne171 : b147 ≠ b1_161 := Nat.ne_of_lt (Nat.lt_of_lt_of_le f162.lt sqb1_161)
      have ne172 : b147 ≠ b2_161 := Nat.ne_of_lt (Nat.lt_of_lt_of_le f162.lt sqb2_161)
      have ne173 : b147 ≠ b5_161 := Nat.ne_of_lt (Nat.lt_of_lt_of_le f162.lt sqb5_161)
      have ne174 : b147 ≠ b6_161 := Nat.ne_of_lt (Nat.lt_of_lt_of_le f162.lt sqb6_161)
      refine Go.callV X161 hx hZ (y := (⟨"com/example/edgewise/edgewise/EdgeSlots", "add", "(IIDI)I"⟩ : MethodName)) (z := (⟨"com/example/edgewise/edgewise/EdgeSlots", "add", "(IIDI)I"⟩ : MethodName)) hown (wi hw 40 rfl) (wi hw 41 rfl) (notFace_of_selects (args := #[]) (mvT hZ (wi hw 43 rfl))) (wi hw 43 rfl) (wi hw 42 rfl) (wi hw 3 rfl) (wi hw 44 rfl) (by decide) e161 (a := b147) (argsL := [(.int v109), (.int v108), (.double (4611686018427387904 : UInt64)), (.int v109)]) (rest := []) (W := 0) f170 (rm_addB1 l Z a0 hw b147 v109 v108 (4611686018427387904 : UInt64) v109 b1_161 b2_161 b3_161 b4_161 b5_161 b6_161 b7_160 (upI (fun _ => (0 : Int32)) 0 v108) (upI (fun _ => (0 : Int32)) 0 v109) (upD (fun _ => (0 : UInt64)) 0 FP.dconst1) (upI (fun _ => (0 : Int32)) 0 v108) (1 : Int32) (1 : Int32) (1 : Int64) 1 h161 n0 (Nat.le_trans (Nat.le_trans (Nat.le_trans Z0 E147.1) Kq160.1) Kq161.1) f170 Fq0_161 Fq1_161 Fq2_161 Fq3_161 Fq4_161 Fq5_161 Fq6_161 Fq7_161 Fq11_161 Fq12_161 Fq15_161 Fq16_161 Fq8_161 Fq9_161 Fq10_161 (Ne.symm ne171) (Ne.symm ne172) (Ne.symm ne173) (Ne.symm ne174) nqb1_b2_161 nqb1_b5_161 nqb1_b6_161 nqb2_b5_161 nqb2_b6_161 nqb5_b6_161 g148 gqb1_161 gqb2_161 gqb5_161 gqb6_161 rfl (by decide)) (hb hby at_98) (by rw [hml]; rfl) rfl pd_aIIDIzI rfl rfl (by decide) (by decide) (by decide) (by decide) ?_
      intro v169 T169 L169 X169 hQ169
      obtain ⟨h169, e169⟩ : ∃ z, T169.heap = z := ⟨_, rfl⟩
      rw [e169] at hQ169
      obtain ⟨rfl, Nq169, Kq169, Fq0_169, Fq1_169, Fq2_169, Fq3_169, Fq4_169, Fq5_169, Fq6_169, Fq7_169, Fq8_169, Fq9_169, Fq10_169, Fq11_169, Fq12_169, Fq13_169, Fq14_169⟩ := hQ169
      have N169 := Fr.app N161 Nq169
      have Fq8_169 : Fld Z h169 b147 "com/example/edgewise/edgewise/EdgeSlots" "bound" "I" (.int (2 : Int32)) := Fq8_169
      have Fq9_169 : Fld Z h169 b147 "com/example/edgewise/edgewise/EdgeSlots" "count" "I" (.int (2 : Int32)) := Fq9_169
      have Fq10_169 : Fld Z h169 b147 "com/example/edgewise/edgewise/EdgeSlots" "nextNumber" "J" (.long (2 : Int64)) := Fq10_169
      show Go p.tables e below s _ _ _ (T169.setTop (mkF m 101 #[.val (.int p1), .val (.int p2), .val (.int p3), .val (.int p4), .val (.int p5), .val (.int p6), .val (.int (2 : Int32)), .val (.int v106), .val (.int v107), .val (.int v108), .val (.int v109), .val (.int (1 : Int32)), .val (.ref b147), .unset] [(.int (1 : Int32))]))
      refine g_pop X169 hx hby at_101 (pc' := 102) rfl rfl ?_
      refine g_iload X169 hx hby at_102 (pc' := 104) rfl rfl ?_
      refine g_iconst X169 hx hby at_104 (pc' := 105) rfl (z := (2 : Int32)) rfl ?_
      have hc105 : ¬ ((2 : Int) < (2 : Int)) := by decide
      refine g_icmpYes X169 hx hby at_105 (pc' := 122) (flt (show ¬ ((2 : Int32) < (2 : Int32)) from fun q => hc105 (Int32.lt_iff_toInt_lt.mp q))).2.2.2 (by decide) (by decide) ?_
      refine g_iload X169 hx hby at_122 (pc' := 124) rfl rfl ?_
      refine g_iconst X169 hx hby at_124 (pc' := 125) rfl (z := (3 : Int32)) rfl ?_
      have hc125 : ¬ ((3 : Int) < (2 : Int)) := by decide
      refine g_icmpYes X169 hx hby at_125 (pc' := 142) (flt (show ¬ ((3 : Int32) < (2 : Int32)) from fun q => hc125 (Int32.lt_iff_toInt_lt.mp q))).2.2.2 (by decide) (by decide) ?_
      have f175 := f170.keep Kq169
      exact J142 (T169, _, h169, (1 : Int32), b147, b1_161, b2_161) ⟨X169.more (by decide) (by decide), e169, N169, (Nat.le_trans (Nat.le_trans (Nat.le_trans (Nat.le_trans Z0 E147.1) Kq160.1) Kq161.1) Kq169.1), f175, Fq2_169, Fq3_169, Fq8_169, Fq9_169, Fq11_169, Fq12_169, (show b1_161 ≠ b147 ∧ b2_161 ≠ b147 ∧ b1_161 ≠ b2_161 ∧ n0 ≤ b147 ∧ n0 ≤ b1_161 ∧ n0 ≤ b2_161 from ⟨(Ne.symm ne171), (Ne.symm ne172), nqb1_b2_161, g148, gqb1_161, gqb2_161⟩)⟩
  · show Go p.tables e below s _ _ _ (T0.setTop (mkF m 8 #[.val (.int p1), .val (.int p2), .val (.int p3), .val (.int p4), .val (.int p5), .val (.int p6), .val (.int (3 : Int32)), .unset, .unset, .unset, .unset, .unset, .unset, .unset] []))
    refine g_iloadN X0 hx hby at_8 (pc' := 9) rfl rfl ?_
    refine g_bipush X0 hx hby at_9 (pc' := 11) rfl (z := (15 : Int32)) rfl ?_
    refine g_iand X0 hx hby at_11 (pc' := 12) rfl rfl ?_
    show Go p.tables e below s _ _ _ (T0.setTop (mkF m 12 #[.val (.int p1), .val (.int p2), .val (.int p3), .val (.int p4), .val (.int p5), .val (.int p6), .val (.int (3 : Int32)), .unset, .unset, .unset, .unset, .unset, .unset, .unset] [(.int (p2 &&& (15 : Int32)))]))
    generalize hv176 : (p2 &&& (15 : Int32)) = v176
    refine g_istore X0 hx hby at_12 (pc' := 14) rfl (L' := #[.val (.int p1), .val (.int p2), .val (.int p3), .val (.int p4), .val (.int p5), .val (.int p6), .val (.int (3 : Int32)), .val (.int v176), .unset, .unset, .unset, .unset, .unset, .unset]) rfl ?_
    refine g_iloadN X0 hx hby at_14 (pc' := 15) rfl rfl ?_
    refine g_ldcI X0 hx hby hZ hown (wi hw 0 rfl) at_15 (pc' := 17) rfl ?_
    refine g_iand X0 hx hby at_17 (pc' := 18) rfl rfl ?_
    refine g_iload X0 hx hby at_18 (pc' := 20) rfl rfl ?_
    refine g_iconst X0 hx hby at_20 (pc' := 21) rfl (z := (1 : Int32)) rfl ?_
    refine g_iadd X0 hx hby at_21 (pc' := 22) rfl (z := (4 : Int32)) rfl ?_
    refine g_irem X0 hx hby at_22 (pc' := 23) rfl (by decide) rfl ?_
    show Go p.tables e below s _ _ _ (T0.setTop (mkF m 23 #[.val (.int p1), .val (.int p2), .val (.int p3), .val (.int p4), .val (.int p5), .val (.int p6), .val (.int (3 : Int32)), .val (.int v176), .unset, .unset, .unset, .unset, .unset, .unset] [(.int ((p3 &&& (2147483647 : Int32)) % (4 : Int32)))]))
    generalize hv177 : ((p3 &&& (2147483647 : Int32)) % (4 : Int32)) = v177
    refine g_istore X0 hx hby at_23 (pc' := 25) rfl (L' := #[.val (.int p1), .val (.int p2), .val (.int p3), .val (.int p4), .val (.int p5), .val (.int p6), .val (.int (3 : Int32)), .val (.int v176), .val (.int v177), .unset, .unset, .unset, .unset, .unset]) rfl ?_
    refine g_iloadN X0 hx hby at_25 (pc' := 26) rfl rfl ?_
    refine g_ldcI X0 hx hby hZ hown (wi hw 0 rfl) at_26 (pc' := 28) rfl ?_
    refine g_iand X0 hx hby at_28 (pc' := 29) rfl rfl ?_
    show Go p.tables e below s _ _ _ (T0.setTop (mkF m 29 #[.val (.int p1), .val (.int p2), .val (.int p3), .val (.int p4), .val (.int p5), .val (.int p6), .val (.int (3 : Int32)), .val (.int v176), .val (.int v177), .unset, .unset, .unset, .unset, .unset] [(.int (p4 &&& (2147483647 : Int32)))]))
    generalize hv178 : (p4 &&& (2147483647 : Int32)) = v178
    refine g_istore X0 hx hby at_29 (pc' := 31) rfl (L' := #[.val (.int p1), .val (.int p2), .val (.int p3), .val (.int p4), .val (.int p5), .val (.int p6), .val (.int (3 : Int32)), .val (.int v176), .val (.int v177), .val (.int v178), .unset, .unset, .unset, .unset]) rfl ?_
    refine g_iload X0 hx hby at_31 (pc' := 33) rfl rfl ?_
    refine g_ldcI X0 hx hby hZ hown (wi hw 0 rfl) at_33 (pc' := 35) rfl ?_
    refine g_iand X0 hx hby at_35 (pc' := 36) rfl rfl ?_
    show Go p.tables e below s _ _ _ (T0.setTop (mkF m 36 #[.val (.int p1), .val (.int p2), .val (.int p3), .val (.int p4), .val (.int p5), .val (.int p6), .val (.int (3 : Int32)), .val (.int v176), .val (.int v177), .val (.int v178), .unset, .unset, .unset, .unset] [(.int (p5 &&& (2147483647 : Int32)))]))
    generalize hv179 : (p5 &&& (2147483647 : Int32)) = v179
    refine g_istore X0 hx hby at_36 (pc' := 38) rfl (L' := #[.val (.int p1), .val (.int p2), .val (.int p3), .val (.int p4), .val (.int p5), .val (.int p6), .val (.int (3 : Int32)), .val (.int v176), .val (.int v177), .val (.int v178), .val (.int v179), .unset, .unset, .unset]) rfl ?_
    have hm : 0 ≤ v176.toInt ∧ v176.toInt ≤ 15 := by rw [← hv176]; have : (p2 &&& (15 : Int32)).toInt = p2.toInt % 16 := c_mask _ _ 4 (by decide) (by decide); have : -2147483648 ≤ (p2 &&& (15 : Int32)).toInt ∧ (p2 &&& (15 : Int32)).toInt < 2147483648 := rng32 _; have : -2147483648 ≤ p2.toInt ∧ p2.toInt < 2147483648 := rng32 _; omega
    obtain ⟨ks, hkle, hks⟩ : ∃ ks : Nat, ks ≤ 3 ∧ v177.toInt = (ks : Int) := ⟨v177.toInt.toNat, by rw [← hv177]; have : (0 ≤ (p3 &&& (2147483647 : Int32)).toInt → ((p3 &&& (2147483647 : Int32)) % (4 : Int32)).toInt = (p3 &&& (2147483647 : Int32)).toInt % 4) ∧ ((p3 &&& (2147483647 : Int32)).toInt < 0 → ((p3 &&& (2147483647 : Int32)) % (4 : Int32)).toInt = -((-(p3 &&& (2147483647 : Int32)).toInt) % 4)) := c_irem _ _ 4 rfl; have : -2147483648 ≤ ((p3 &&& (2147483647 : Int32)) % (4 : Int32)).toInt ∧ ((p3 &&& (2147483647 : Int32)) % (4 : Int32)).toInt < 2147483648 := rng32 _; have : (p3 &&& (2147483647 : Int32)).toInt = p3.toInt % 2147483648 := c_mask _ _ 31 (by decide) (by decide); have : -2147483648 ≤ (p3 &&& (2147483647 : Int32)).toInt ∧ (p3 &&& (2147483647 : Int32)).toInt < 2147483648 := rng32 _; have : -2147483648 ≤ p3.toInt ∧ p3.toInt < 2147483648 := rng32 _; omega, by rw [← hv177]; have : (0 ≤ (p3 &&& (2147483647 : Int32)).toInt → ((p3 &&& (2147483647 : Int32)) % (4 : Int32)).toInt = (p3 &&& (2147483647 : Int32)).toInt % 4) ∧ ((p3 &&& (2147483647 : Int32)).toInt < 0 → ((p3 &&& (2147483647 : Int32)) % (4 : Int32)).toInt = -((-(p3 &&& (2147483647 : Int32)).toInt) % 4)) := c_irem _ _ 4 rfl; have : -2147483648 ≤ ((p3 &&& (2147483647 : Int32)) % (4 : Int32)).toInt ∧ ((p3 &&& (2147483647 : Int32)) % (4 : Int32)).toInt < 2147483648 := rng32 _; have : (p3 &&& (2147483647 : Int32)).toInt = p3.toInt % 2147483648 := c_mask _ _ 31 (by decide) (by decide); have : -2147483648 ≤ (p3 &&& (2147483647 : Int32)).toInt ∧ (p3 &&& (2147483647 : Int32)).toInt < 2147483648 := rng32 _; have : -2147483648 ≤ p3.toInt ∧ p3.toInt < 2147483648 := rng32 _; omega⟩
    have hva : 0 ≤ v178.toInt := by rw [← hv178]; have : (p4 &&& (2147483647 : Int32)).toInt = p4.toInt % 2147483648 := c_mask _ _ 31 (by decide) (by decide); have : -2147483648 ≤ (p4 &&& (2147483647 : Int32)).toInt ∧ (p4 &&& (2147483647 : Int32)).toInt < 2147483648 := rng32 _; have : -2147483648 ≤ p4.toInt ∧ p4.toInt < 2147483648 := rng32 _; omega
    have hvb : 0 ≤ v179.toInt := by rw [← hv179]; have : (p5 &&& (2147483647 : Int32)).toInt = p5.toInt % 2147483648 := c_mask _ _ 31 (by decide) (by decide); have : -2147483648 ≤ (p5 &&& (2147483647 : Int32)).toInt ∧ (p5 &&& (2147483647 : Int32)).toInt < 2147483648 := rng32 _; have : -2147483648 ≤ p5.toInt ∧ p5.toInt < 2147483648 := rng32 _; omega
    refine Go.join (α := State × (List Loc) × Heap × Int32 × Addr × Addr × Addr) (P := fun x => (fun (Tj142 : State) (Lj142 : List Loc) (hj142 : Heap) (fl : Int32) (oa : Addr) (xa : Addr) (xb : Addr) => Stand p l e room_1 s m #[(.int p1), (.int p2), (.int p3), (.int p4), (.int p5), (.int p6)] below meth c Tj142 Lj142 14 35 ∧ Tj142.heap = hj142 ∧ Fr n0 Lj142 ∧ n0 ≤ hj142.size ∧ Exa Z hj142 oa "com/example/edgewise/edgewise/EdgeSlots" ∧ Fld Z hj142 oa "com/example/edgewise/edgewise/EdgeSlots" "sources" "[I" (.ref xa) ∧ Fld Z hj142 oa "com/example/edgewise/edgewise/EdgeSlots" "targets" "[I" (.ref xb) ∧ Fld Z hj142 oa "com/example/edgewise/edgewise/EdgeSlots" "bound" "I" (.int (3 : Int32)) ∧ Fld Z hj142 oa "com/example/edgewise/edgewise/EdgeSlots" "count" "I" (.int (3 : Int32)) ∧ ArF Z hj142 xa .int 4 (fun i => .int ((upI (upI (upI (fun _ => (0 : Int32)) 0 v178) 1 v179) 2 v178) i)) ∧ ArF Z hj142 xb .int 4 (fun i => .int ((upI (upI (upI (fun _ => (0 : Int32)) 0 v179) 1 v178) 2 v178) i)) ∧ (xa ≠ oa ∧ xb ≠ oa ∧ xa ≠ xb ∧ n0 ≤ oa ∧ n0 ≤ xa ∧ n0 ≤ xb)) x.1 x.2.1 x.2.2.1 x.2.2.2.1 x.2.2.2.2.1 x.2.2.2.2.2.1 x.2.2.2.2.2.2) (F := fun x => (fun (Tj142 : State) (Lj142 : List Loc) (hj142 : Heap) (fl : Int32) (oa : Addr) (xa : Addr) (xb : Addr) => Tj142.setTop (mkF m 142 #[.val (.int p1), .val (.int p2), .val (.int p3), .val (.int p4), .val (.int p5), .val (.int p6), .val (.int (3 : Int32)), .val (.int v176), .val (.int v177), .val (.int v178), .val (.int v179), .val (.int fl), .val (.ref oa), .unset] [])) x.1 x.2.1 x.2.2.1 x.2.2.2.1 x.2.2.2.2.1 x.2.2.2.2.2.1 x.2.2.2.2.2.2) ?_ ?_
    · rintro ⟨Tj142, Lj142, hj142, fl, oa, xa, xb⟩ hP142
      obtain ⟨Xj142, ej142, Nj142, zj142, fj142_0, fj142_1, fj142_2, fj142_3, fj142_4, fj142_5, fj142_6, hJ142⟩ : Stand p l e room_1 s m #[(.int p1), (.int p2), (.int p3), (.int p4), (.int p5), (.int p6)] below meth c Tj142 Lj142 14 35 ∧ Tj142.heap = hj142 ∧ Fr n0 Lj142 ∧ n0 ≤ hj142.size ∧ Exa Z hj142 oa "com/example/edgewise/edgewise/EdgeSlots" ∧ Fld Z hj142 oa "com/example/edgewise/edgewise/EdgeSlots" "sources" "[I" (.ref xa) ∧ Fld Z hj142 oa "com/example/edgewise/edgewise/EdgeSlots" "targets" "[I" (.ref xb) ∧ Fld Z hj142 oa "com/example/edgewise/edgewise/EdgeSlots" "bound" "I" (.int (3 : Int32)) ∧ Fld Z hj142 oa "com/example/edgewise/edgewise/EdgeSlots" "count" "I" (.int (3 : Int32)) ∧ ArF Z hj142 xa .int 4 (fun i => .int ((upI (upI (upI (fun _ => (0 : Int32)) 0 v178) 1 v179) 2 v178) i)) ∧ ArF Z hj142 xb .int 4 (fun i => .int ((upI (upI (upI (fun _ => (0 : Int32)) 0 v179) 1 v178) 2 v178) i)) ∧ (xa ≠ oa ∧ xb ≠ oa ∧ xa ≠ xb ∧ n0 ≤ oa ∧ n0 ≤ xa ∧ n0 ≤ xb) := hP142
      show Go p.tables e below s _ _ _ (Tj142.setTop (mkF m 142 #[.val (.int p1), .val (.int p2), .val (.int p3), .val (.int p4), .val (.int p5), .val (.int p6), .val (.int (3 : Int32)), .val (.int v176), .val (.int v177), .val (.int v178), .val (.int v179), .val (.int fl), .val (.ref oa), .unset] []))
      obtain ⟨ne1, ne2, ne3, ge1, ge2, ge3⟩ := hJ142
      refine g_iload Xj142 hx hby at_142 (pc' := 144) rfl rfl ?_
      have hc144 : (0 : Int) < (3 : Int) := by decide
      refine g_ifNo Xj142 hx hby at_144 (pc' := 147) (tlt (show (0 : Int32) < (3 : Int32) from Int32.lt_iff_toInt_lt.mpr hc144)).2.2.2 rfl ?_
      refine Go.join (α := State × (List Loc) × Heap × (Nat → Int32) × (Nat → Int32) × Int32) (P := fun x => (fun (Tj160 : State) (Lj160 : List Loc) (hj160 : Heap) (ga0 : Nat → Int32) (gb0 : Nat → Int32) (ca0 : Int32) => Stand p l e room_1 s m #[(.int p1), (.int p2), (.int p3), (.int p4), (.int p5), (.int p6)] below meth c Tj160 Lj160 14 35 ∧ Tj160.heap = hj160 ∧ Fr n0 Lj160 ∧ n0 ≤ hj160.size ∧ Exa Z hj160 oa "com/example/edgewise/edgewise/EdgeSlots" ∧ Fld Z hj160 oa "com/example/edgewise/edgewise/EdgeSlots" "sources" "[I" (.ref xa) ∧ Fld Z hj160 oa "com/example/edgewise/edgewise/EdgeSlots" "targets" "[I" (.ref xb) ∧ Fld Z hj160 oa "com/example/edgewise/edgewise/EdgeSlots" "bound" "I" (.int (3 : Int32)) ∧ Fld Z hj160 oa "com/example/edgewise/edgewise/EdgeSlots" "count" "I" (.int ca0) ∧ ArF Z hj160 xa .int 4 (fun i => .int (ga0 i)) ∧ ArF Z hj160 xb .int 4 (fun i => .int (gb0 i)) ∧ (ga0 = own_rm (upI (upI (upI (fun _ => (0 : Int32)) 0 v178) 1 v179) 2 v178) v176 (1 : Int32) 0)) x.1 x.2.1 x.2.2.1 x.2.2.2.1 x.2.2.2.2.1 x.2.2.2.2.2) (F := fun x => (fun (Tj160 : State) (Lj160 : List Loc) (hj160 : Heap) (ga0 : Nat → Int32) (gb0 : Nat → Int32) (ca0 : Int32) => Tj160.setTop (mkF m 160 #[.val (.int p1), .val (.int p2), .val (.int p3), .val (.int p4), .val (.int p5), .val (.int p6), .val (.int (3 : Int32)), .val (.int v176), .val (.int v177), .val (.int v178), .val (.int v179), .val (.int fl), .val (.ref oa), .unset] [])) x.1 x.2.1 x.2.2.1 x.2.2.2.1 x.2.2.2.2.1 x.2.2.2.2.2) ?_ ?_
      · rintro ⟨Tj160, Lj160, hj160, ga0, gb0, ca0⟩ hP160
        obtain ⟨Xj160, ej160, Nj160, zj160, fj160_0, fj160_1, fj160_2, fj160_3, fj160_4, fj160_5, fj160_6, hJ160⟩ : Stand p l e room_1 s m #[(.int p1), (.int p2), (.int p3), (.int p4), (.int p5), (.int p6)] below meth c Tj160 Lj160 14 35 ∧ Tj160.heap = hj160 ∧ Fr n0 Lj160 ∧ n0 ≤ hj160.size ∧ Exa Z hj160 oa "com/example/edgewise/edgewise/EdgeSlots" ∧ Fld Z hj160 oa "com/example/edgewise/edgewise/EdgeSlots" "sources" "[I" (.ref xa) ∧ Fld Z hj160 oa "com/example/edgewise/edgewise/EdgeSlots" "targets" "[I" (.ref xb) ∧ Fld Z hj160 oa "com/example/edgewise/edgewise/EdgeSlots" "bound" "I" (.int (3 : Int32)) ∧ Fld Z hj160 oa "com/example/edgewise/edgewise/EdgeSlots" "count" "I" (.int ca0) ∧ ArF Z hj160 xa .int 4 (fun i => .int (ga0 i)) ∧ ArF Z hj160 xb .int 4 (fun i => .int (gb0 i)) ∧ (ga0 = own_rm (upI (upI (upI (fun _ => (0 : Int32)) 0 v178) 1 v179) 2 v178) v176 (1 : Int32) 0) := hP160
        show Go p.tables e below s _ _ _ (Tj160.setTop (mkF m 160 #[.val (.int p1), .val (.int p2), .val (.int p3), .val (.int p4), .val (.int p5), .val (.int p6), .val (.int (3 : Int32)), .val (.int v176), .val (.int v177), .val (.int v178), .val (.int v179), .val (.int fl), .val (.ref oa), .unset] []))
        refine g_iload Xj160 hx hby at_160 (pc' := 162) rfl rfl ?_
        refine g_iconst Xj160 hx hby at_162 (pc' := 163) rfl (z := (1 : Int32)) rfl ?_
        have hc163 : (1 : Int) < (3 : Int) := by decide
        refine g_icmpNo Xj160 hx hby at_163 (pc' := 166) (tlt (show (1 : Int32) < (3 : Int32) from Int32.lt_iff_toInt_lt.mpr hc163)).2.2.2 rfl ?_
        refine Go.join (α := State × (List Loc) × Heap × (Nat → Int32) × (Nat → Int32) × Int32) (P := fun x => (fun (Tj179 : State) (Lj179 : List Loc) (hj179 : Heap) (ga1 : Nat → Int32) (gb1 : Nat → Int32) (ca1 : Int32) => Stand p l e room_1 s m #[(.int p1), (.int p2), (.int p3), (.int p4), (.int p5), (.int p6)] below meth c Tj179 Lj179 14 35 ∧ Tj179.heap = hj179 ∧ Fr n0 Lj179 ∧ n0 ≤ hj179.size ∧ Exa Z hj179 oa "com/example/edgewise/edgewise/EdgeSlots" ∧ Fld Z hj179 oa "com/example/edgewise/edgewise/EdgeSlots" "sources" "[I" (.ref xa) ∧ Fld Z hj179 oa "com/example/edgewise/edgewise/EdgeSlots" "targets" "[I" (.ref xb) ∧ Fld Z hj179 oa "com/example/edgewise/edgewise/EdgeSlots" "bound" "I" (.int (3 : Int32)) ∧ Fld Z hj179 oa "com/example/edgewise/edgewise/EdgeSlots" "count" "I" (.int ca1) ∧ ArF Z hj179 xa .int 4 (fun i => .int (ga1 i)) ∧ ArF Z hj179 xb .int 4 (fun i => .int (gb1 i)) ∧ (ga1 = own_rm ga0 v176 (2 : Int32) 1)) x.1 x.2.1 x.2.2.1 x.2.2.2.1 x.2.2.2.2.1 x.2.2.2.2.2) (F := fun x => (fun (Tj179 : State) (Lj179 : List Loc) (hj179 : Heap) (ga1 : Nat → Int32) (gb1 : Nat → Int32) (ca1 : Int32) => Tj179.setTop (mkF m 179 #[.val (.int p1), .val (.int p2), .val (.int p3), .val (.int p4), .val (.int p5), .val (.int p6), .val (.int (3 : Int32)), .val (.int v176), .val (.int v177), .val (.int v178), .val (.int v179), .val (.int fl), .val (.ref oa), .unset] [])) x.1 x.2.1 x.2.2.1 x.2.2.2.1 x.2.2.2.2.1 x.2.2.2.2.2) ?_ ?_
        · rintro ⟨Tj179, Lj179, hj179, ga1, gb1, ca1⟩ hP179
          obtain ⟨Xj179, ej179, Nj179, zj179, fj179_0, fj179_1, fj179_2, fj179_3, fj179_4, fj179_5, fj179_6, hJ179⟩ : Stand p l e room_1 s m #[(.int p1), (.int p2), (.int p3), (.int p4), (.int p5), (.int p6)] below meth c Tj179 Lj179 14 35 ∧ Tj179.heap = hj179 ∧ Fr n0 Lj179 ∧ n0 ≤ hj179.size ∧ Exa Z hj179 oa "com/example/edgewise/edgewise/EdgeSlots" ∧ Fld Z hj179 oa "com/example/edgewise/edgewise/EdgeSlots" "sources" "[I" (.ref xa) ∧ Fld Z hj179 oa "com/example/edgewise/edgewise/EdgeSlots" "targets" "[I" (.ref xb) ∧ Fld Z hj179 oa "com/example/edgewise/edgewise/EdgeSlots" "bound" "I" (.int (3 : Int32)) ∧ Fld Z hj179 oa "com/example/edgewise/edgewise/EdgeSlots" "count" "I" (.int ca1) ∧ ArF Z hj179 xa .int 4 (fun i => .int (ga1 i)) ∧ ArF Z hj179 xb .int 4 (fun i => .int (gb1 i)) ∧ (ga1 = own_rm ga0 v176 (2 : Int32) 1) := hP179
          show Go p.tables e below s _ _ _ (Tj179.setTop (mkF m 179 #[.val (.int p1), .val (.int p2), .val (.int p3), .val (.int p4), .val (.int p5), .val (.int p6), .val (.int (3 : Int32)), .val (.int v176), .val (.int v177), .val (.int v178), .val (.int v179), .val (.int fl), .val (.ref oa), .unset] []))
          refine g_iload Xj179 hx hby at_179 (pc' := 181) rfl rfl ?_
          refine g_iconst Xj179 hx hby at_181 (pc' := 182) rfl (z := (2 : Int32)) rfl ?_
          have hc182 : (2 : Int) < (3 : Int) := by decide
          refine g_icmpNo Xj179 hx hby at_182 (pc' := 185) (tlt (show (2 : Int32) < (3 : Int32) from Int32.lt_iff_toInt_lt.mpr hc182)).2.2.2 rfl ?_
          refine Go.join (α := State × (List Loc) × Heap × (Nat → Int32) × (Nat → Int32) × Int32) (P := fun x => (fun (Tj198 : State) (Lj198 : List Loc) (hj198 : Heap) (ga2 : Nat → Int32) (gb2 : Nat → Int32) (ca2 : Int32) => Stand p l e room_1 s m #[(.int p1), (.int p2), (.int p3), (.int p4), (.int p5), (.int p6)] below meth c Tj198 Lj198 14 35 ∧ Tj198.heap = hj198 ∧ Fr n0 Lj198 ∧ n0 ≤ hj198.size ∧ Exa Z hj198 oa "com/example/edgewise/edgewise/EdgeSlots" ∧ Fld Z hj198 oa "com/example/edgewise/edgewise/EdgeSlots" "sources" "[I" (.ref xa) ∧ Fld Z hj198 oa "com/example/edgewise/edgewise/EdgeSlots" "targets" "[I" (.ref xb) ∧ Fld Z hj198 oa "com/example/edgewise/edgewise/EdgeSlots" "bound" "I" (.int (3 : Int32)) ∧ Fld Z hj198 oa "com/example/edgewise/edgewise/EdgeSlots" "count" "I" (.int ca2) ∧ ArF Z hj198 xa .int 4 (fun i => .int (ga2 i)) ∧ ArF Z hj198 xb .int 4 (fun i => .int (gb2 i)) ∧ (ga2 = own_rm ga1 v176 (4 : Int32) 2)) x.1 x.2.1 x.2.2.1 x.2.2.2.1 x.2.2.2.2.1 x.2.2.2.2.2) (F := fun x => (fun (Tj198 : State) (Lj198 : List Loc) (hj198 : Heap) (ga2 : Nat → Int32) (gb2 : Nat → Int32) (ca2 : Int32) => Tj198.setTop (mkF m 198 #[.val (.int p1), .val (.int p2), .val (.int p3), .val (.int p4), .val (.int p5), .val (.int p6), .val (.int (3 : Int32)), .val (.int v176), .val (.int v177), .val (.int v178), .val (.int v179), .val (.int fl), .val (.ref oa), .unset] [])) x.1 x.2.1 x.2.2.1 x.2.2.2.1 x.2.2.2.2.1 x.2.2.2.2.2) ?_ ?_
          · rintro ⟨Tj198, Lj198, hj198, ga2, gb2, ca2⟩ hP198
            obtain ⟨Xj198, ej198, Nj198, zj198, fj198_0, fj198_1, fj198_2, fj198_3, fj198_4, fj198_5, fj198_6, hJ198⟩ : Stand p l e room_1 s m #[(.int p1), (.int p2), (.int p3), (.int p4), (.int p5), (.int p6)] below meth c Tj198 Lj198 14 35 ∧ Tj198.heap = hj198 ∧ Fr n0 Lj198 ∧ n0 ≤ hj198.size ∧ Exa Z hj198 oa "com/example/edgewise/edgewise/EdgeSlots" ∧ Fld Z hj198 oa "com/example/edgewise/edgewise/EdgeSlots" "sources" "[I" (.ref xa) ∧ Fld Z hj198 oa "com/example/edgewise/edgewise/EdgeSlots" "targets" "[I" (.ref xb) ∧ Fld Z hj198 oa "com/example/edgewise/edgewise/EdgeSlots" "bound" "I" (.int (3 : Int32)) ∧ Fld Z hj198 oa "com/example/edgewise/edgewise/EdgeSlots" "count" "I" (.int ca2) ∧ ArF Z hj198 xa .int 4 (fun i => .int (ga2 i)) ∧ ArF Z hj198 xb .int 4 (fun i => .int (gb2 i)) ∧ (ga2 = own_rm ga1 v176 (4 : Int32) 2) := hP198
            show Go p.tables e below s _ _ _ (Tj198.setTop (mkF m 198 #[.val (.int p1), .val (.int p2), .val (.int p3), .val (.int p4), .val (.int p5), .val (.int p6), .val (.int (3 : Int32)), .val (.int v176), .val (.int v177), .val (.int v178), .val (.int v179), .val (.int fl), .val (.ref oa), .unset] []))
            refine g_iload Xj198 hx hby at_198 (pc' := 200) rfl rfl ?_
            refine g_iconst Xj198 hx hby at_200 (pc' := 201) rfl (z := (3 : Int32)) rfl ?_
            have hc201 : ¬ ((3 : Int) < (3 : Int)) := by decide
            refine g_icmpYes Xj198 hx hby at_201 (pc' := 218) (flt (show ¬ ((3 : Int32) < (3 : Int32)) from fun q => hc201 (Int32.lt_iff_toInt_lt.mp q))).2.2.2 (by decide) (by decide) ?_
            refine g_iload Xj198 hx hby at_218 (pc' := 220) rfl rfl ?_
            refine g_istore Xj198 hx hby at_220 (pc' := 222) rfl (L' := #[.val (.int p1), .val (.int p2), .val (.int p3), .val (.int p4), .val (.int p5), .val (.int p6), .val (.int (3 : Int32)), .val (.int v176), .val (.int v177), .val (.int v178), .val (.int v179), .val (.int fl), .val (.ref oa), .val (.int (3 : Int32))]) rfl ?_
            refine Go.join (α := State × (List Loc) × Int32) (P := fun x => (fun (Tj242 : State) (Lj242 : List Loc) (ee3 : Int32) => Stand p l e room_1 s m #[(.int p1), (.int p2), (.int p3), (.int p4), (.int p5), (.int p6)] below meth c Tj242 Lj242 14 35 ∧ Tj242.heap = hj198 ∧ Fr n0 Lj242 ∧ (ee3 = own_ei 3 (3 : Int32) v177 (3 : Int32) v176 (3 : Int32))) x.1 x.2.1 x.2.2) (F := fun x => (fun (Tj242 : State) (Lj242 : List Loc) (ee3 : Int32) => Tj242.setTop (mkF m 242 #[.val (.int p1), .val (.int p2), .val (.int p3), .val (.int p4), .val (.int p5), .val (.int p6), .val (.int (3 : Int32)), .val (.int v176), .val (.int v177), .val (.int v178), .val (.int v179), .val (.int fl), .val (.ref oa), .val (.int ee3)] [])) x.1 x.2.1 x.2.2) ?_ ?_
            · rintro ⟨Tj242, Lj242, ee3⟩ hP242
              obtain ⟨Xj242, ej242, Nj242, hJ242⟩ : Stand p l e room_1 s m #[(.int p1), (.int p2), (.int p3), (.int p4), (.int p5), (.int p6)] below meth c Tj242 Lj242 14 35 ∧ Tj242.heap = hj198 ∧ Fr n0 Lj242 ∧ (ee3 = own_ei 3 (3 : Int32) v177 (3 : Int32) v176 (3 : Int32)) := hP242
              show Go p.tables e below s _ _ _ (Tj242.setTop (mkF m 242 #[.val (.int p1), .val (.int p2), .val (.int p3), .val (.int p4), .val (.int p5), .val (.int p6), .val (.int (3 : Int32)), .val (.int v176), .val (.int v177), .val (.int v178), .val (.int v179), .val (.int fl), .val (.ref oa), .val (.int ee3)] []))
              refine Go.join (α := State × (List Loc) × Int32) (P := fun x => (fun (Tj262 : State) (Lj262 : List Loc) (ee2 : Int32) => Stand p l e room_1 s m #[(.int p1), (.int p2), (.int p3), (.int p4), (.int p5), (.int p6)] below meth c Tj262 Lj262 14 35 ∧ Tj262.heap = hj198 ∧ Fr n0 Lj262 ∧ (ee2 = own_ei 2 (2 : Int32) v177 (3 : Int32) v176 ee3)) x.1 x.2.1 x.2.2) (F := fun x => (fun (Tj262 : State) (Lj262 : List Loc) (ee2 : Int32) => Tj262.setTop (mkF m 262 #[.val (.int p1), .val (.int p2), .val (.int p3), .val (.int p4), .val (.int p5), .val (.int p6), .val (.int (3 : Int32)), .val (.int v176), .val (.int v177), .val (.int v178), .val (.int v179), .val (.int fl), .val (.ref oa), .val (.int ee2)] [])) x.1 x.2.1 x.2.2) ?_ ?_
              · rintro ⟨Tj262, Lj262, ee2⟩ hP262
                obtain ⟨Xj262, ej262, Nj262, hJ262⟩ : Stand p l e room_1 s m #[(.int p1), (.int p2), (.int p3), (.int p4), (.int p5), (.int p6)] below meth c Tj262 Lj262 14 35 ∧ Tj262.heap = hj198 ∧ Fr n0 Lj262 ∧ (ee2 = own_ei 2 (2 : Int32) v177 (3 : Int32) v176 ee3) := hP262
                show Go p.tables e below s _ _ _ (Tj262.setTop (mkF m 262 #[.val (.int p1), .val (.int p2), .val (.int p3), .val (.int p4), .val (.int p5), .val (.int p6), .val (.int (3 : Int32)), .val (.int v176), .val (.int v177), .val (.int v178), .val (.int v179), .val (.int fl), .val (.ref oa), .val (.int ee2)] []))
                refine Go.join (α := State × (List Loc) × Int32) (P := fun x => (fun (Tj282 : State) (Lj282 : List Loc) (ee1 : Int32) => Stand p l e room_1 s m #[(.int p1), (.int p2), (.int p3), (.int p4), (.int p5), (.int p6)] below meth c Tj282 Lj282 14 35 ∧ Tj282.heap = hj198 ∧ Fr n0 Lj282 ∧ (ee1 = own_ei 1 (1 : Int32) v177 (3 : Int32) v176 ee2)) x.1 x.2.1 x.2.2) (F := fun x => (fun (Tj282 : State) (Lj282 : List Loc) (ee1 : Int32) => Tj282.setTop (mkF m 282 #[.val (.int p1), .val (.int p2), .val (.int p3), .val (.int p4), .val (.int p5), .val (.int p6), .val (.int (3 : Int32)), .val (.int v176), .val (.int v177), .val (.int v178), .val (.int v179), .val (.int fl), .val (.ref oa), .val (.int ee1)] [])) x.1 x.2.1 x.2.2) ?_ ?_
                · rintro ⟨Tj282, Lj282, ee1⟩ hP282
                  obtain ⟨Xj282, ej282, Nj282, hJ282⟩ : Stand p l e room_1 s m #[(.int p1), (.int p2), (.int p3), (.int p4), (.int p5), (.int p6)] below meth c Tj282 Lj282 14 35 ∧ Tj282.heap = hj198 ∧ Fr n0 Lj282 ∧ (ee1 = own_ei 1 (1 : Int32) v177 (3 : Int32) v176 ee2) := hP282
                  show Go p.tables e below s _ _ _ (Tj282.setTop (mkF m 282 #[.val (.int p1), .val (.int p2), .val (.int p3), .val (.int p4), .val (.int p5), .val (.int p6), .val (.int (3 : Int32)), .val (.int v176), .val (.int v177), .val (.int v178), .val (.int v179), .val (.int fl), .val (.ref oa), .val (.int ee1)] []))
                  refine Go.join (α := State × (List Loc) × Int32) (P := fun x => (fun (Tj302 : State) (Lj302 : List Loc) (ee0 : Int32) => Stand p l e room_1 s m #[(.int p1), (.int p2), (.int p3), (.int p4), (.int p5), (.int p6)] below meth c Tj302 Lj302 14 35 ∧ Tj302.heap = hj198 ∧ Fr n0 Lj302 ∧ (ee0 = own_ei 0 (0 : Int32) v177 (3 : Int32) v176 ee1)) x.1 x.2.1 x.2.2) (F := fun x => (fun (Tj302 : State) (Lj302 : List Loc) (ee0 : Int32) => Tj302.setTop (mkF m 302 #[.val (.int p1), .val (.int p2), .val (.int p3), .val (.int p4), .val (.int p5), .val (.int p6), .val (.int (3 : Int32)), .val (.int v176), .val (.int v177), .val (.int v178), .val (.int v179), .val (.int fl), .val (.ref oa), .val (.int ee0)] [])) x.1 x.2.1 x.2.2) ?_ ?_
                  · rintro ⟨Tj302, Lj302, ee0⟩ hP302
                    obtain ⟨Xj302, ej302, Nj302, hJ302⟩ : Stand p l e room_1 s m #[(.int p1), (.int p2), (.int p3), (.int p4), (.int p5), (.int p6)] below meth c Tj302 Lj302 14 35 ∧ Tj302.heap = hj198 ∧ Fr n0 Lj302 ∧ (ee0 = own_ei 0 (0 : Int32) v177 (3 : Int32) v176 ee1) := hP302
                    show Go p.tables e below s _ _ _ (Tj302.setTop (mkF m 302 #[.val (.int p1), .val (.int p2), .val (.int p3), .val (.int p4), .val (.int p5), .val (.int p6), .val (.int (3 : Int32)), .val (.int v176), .val (.int v177), .val (.int v178), .val (.int v179), .val (.int fl), .val (.ref oa), .val (.int ee0)] []))
                    refine g_aload Xj302 hx hby at_302 (pc' := 304) rfl rfl rfl ?_
                    refine g_iload Xj302 hx hby at_304 (pc' := 306) rfl rfl ?_
                    refine Go.callV Xj302 hx hZ (y := (⟨"com/example/edgewise/edgewise/EdgeSlots", "nextLive", "(I)I"⟩ : MethodName)) (z := (⟨"com/example/edgewise/edgewise/EdgeSlots", "nextLive", "(I)I"⟩ : MethodName)) hown (wi hw 33 rfl) (wi hw 34 rfl) (notFace_of_selects (args := #[]) (mvT hZ (wi hw 36 rfl))) (wi hw 36 rfl) (wi hw 35 rfl) (wi hw 3 rfl) (wi hw 37 rfl) (by decide) ej302 (a := oa) (argsL := [(.int v177)]) (rest := []) (W := 0) fj198_0 (rm_nl l Z a0 hw oa v177 xa 4 ga2 (3 : Int32) 3 ks hj198 n0 zj198 fj198_3 fj198_1 fj198_5 rfl hks (by decide) hkle) (hb hby at_306) (by rw [hml]; rfl) rfl pd_aIzI rfl rfl (by decide) (by decide) (by decide) (by decide) ?_
                    intro v180 T180 L180 X180 hQ180
                    obtain ⟨rfl, Nq180, hh180⟩ := hQ180
                    have N180 := Fr.app Nj302 Nq180
                    show Go p.tables e below s _ _ _ (T180.setTop (mkF m 309 #[.val (.int p1), .val (.int p2), .val (.int p3), .val (.int p4), .val (.int p5), .val (.int p6), .val (.int (3 : Int32)), .val (.int v176), .val (.int v177), .val (.int v178), .val (.int v179), .val (.int fl), .val (.ref oa), .val (.int ee0)] [(.int (own_nl ga2 (3 - ks) ks))]))
                    have hfin : (own_nl ga2 (3 - ks) ks) = ee0 := by
                      rw [hJ302, hJ282, hJ262, hJ242, hJ198, hJ179, hJ160]
                      exact own_fin3 _ v176 v177 ks hm hks hkle  hva  hvb  hva
                    rw [hfin]
                    show Go p.tables e below s _ _ _ (T180.setTop (mkF m 309 #[.val (.int p1), .val (.int p2), .val (.int p3), .val (.int p4), .val (.int p5), .val (.int p6), .val (.int (3 : Int32)), .val (.int v176), .val (.int v177), .val (.int v178), .val (.int v179), .val (.int fl), .val (.ref oa), .val (.int ee0)] [(.int ee0)]))
                    refine g_iload X180 hx hby at_309 (pc' := 311) rfl rfl ?_
                    have hc311 : ee0.toInt = ee0.toInt := rfl
                    refine g_icmpNo X180 hx hby at_311 (pc' := 314) (teq (show ee0 = ee0 from Int32.toInt_inj.mp hc311)).2 rfl ?_
                    refine g_iconst X180 hx hby at_314 (pc' := 315) rfl (z := (1 : Int32)) rfl ?_
                    refine g_goto X180 hx hby at_315 (pc' := 319) (by decide) (by decide) ?_
                    refine Go.retZ X180 hx hlk hret (by simp) (hb hby at_319) (by decide) (by decide) ?_
                    exact ⟨rfl, N180⟩
                  intro J302
                  refine g_iconst Xj282 hx hby at_282 (pc' := 283) rfl (z := (0 : Int32)) rfl ?_
                  refine g_iload Xj282 hx hby at_283 (pc' := 285) rfl rfl ?_
                  by_cases hc285 : (0 : Int) < v177.toInt
                  · refine g_icmpYes Xj282 hx hby at_285 (pc' := 302) (tlt (show (0 : Int32) < v177 from Int32.lt_iff_toInt_lt.mpr hc285)).1 (by decide) (by decide) ?_
                    exact J302 (Tj282, _, ee1) ⟨Xj282.more (by decide) (by decide), ej282, Nj282, (show ee1 = own_ei 0 (0 : Int32) v177 (3 : Int32) v176 ee1 from (by unfold own_ei; first | (exfalso; omega) | (rw [if_pos (by omega)]) | (rw [if_neg (by omega)])))⟩
                  · refine g_icmpNo Xj282 hx hby at_285 (pc' := 288) (flt (show ¬ ((0 : Int32) < v177) from fun q => hc285 (Int32.lt_iff_toInt_lt.mp q))).1 rfl ?_
                    refine g_iconst Xj282 hx hby at_288 (pc' := 289) rfl (z := (0 : Int32)) rfl ?_
                    refine g_iload Xj282 hx hby at_289 (pc' := 291) rfl rfl ?_
                    refine g_iload Xj282 hx hby at_291 (pc' := 293) rfl rfl ?_
                    refine Go.callS Xj282 hx hZ (y := (⟨"com/example/edgewise/edgewise/EdgeSlotsNextLivePinLaw", "live", "(III)Z"⟩ : MethodName)) hown (wi hw 29 rfl) (wi hw 30 rfl) (wi hw 31 rfl) (wi hw 32 rfl) (by decide) ej282 (argsL := [(.int (0 : Int32)), (.int (3 : Int32)), (.int v176)]) (rest := []) (W := 0) (rm_live l Z a0 hw (0 : Int32) (3 : Int32) v176 hj198 n0 zj198 ) (hb hby at_293) (by rw [hml]; rfl) rfl pd_aIIIzZ rfl rfl (by decide) (by decide) (by decide) (by decide) ?_
                    intro v181 T181 L181 X181 hQ181
                    obtain ⟨rfl, Nq181, hh181⟩ := hQ181
                    have N181 := Fr.app Nj282 Nq181
                    show Go p.tables e below s _ _ _ (T181.setTop (mkF m 296 #[.val (.int p1), .val (.int p2), .val (.int p3), .val (.int p4), .val (.int p5), .val (.int p6), .val (.int (3 : Int32)), .val (.int v176), .val (.int v177), .val (.int v178), .val (.int v179), .val (.int fl), .val (.ref oa), .val (.int ee1)] [(.int (own_live (0 : Int32) (3 : Int32) v176))]))
                    by_cases hc296 : (own_live (0 : Int32) (3 : Int32) v176).toInt = (0 : Int)
                    · refine g_ifYes X181 hx hby at_296 (pc' := 302) (teq (show (own_live (0 : Int32) (3 : Int32) v176) = (0 : Int32) from Int32.toInt_inj.mp hc296)).1 (by decide) (by decide) ?_
                      exact J302 (T181, _, ee1) ⟨X181.more (by decide) (by decide), hh181, N181, (show ee1 = own_ei 0 (0 : Int32) v177 (3 : Int32) v176 ee1 from (by unfold own_ei; first | (exfalso; omega) | (rw [if_pos (by omega)]) | (rw [if_neg (by omega)])))⟩
                    · refine g_ifNo X181 hx hby at_296 (pc' := 299) (feq (show ¬ ((own_live (0 : Int32) (3 : Int32) v176) = (0 : Int32)) from fun q => hc296 (congrArg Int32.toInt q))).1 rfl ?_
                      refine g_iconst X181 hx hby at_299 (pc' := 300) rfl (z := (0 : Int32)) rfl ?_
                      refine g_istore X181 hx hby at_300 (pc' := 302) rfl (L' := #[.val (.int p1), .val (.int p2), .val (.int p3), .val (.int p4), .val (.int p5), .val (.int p6), .val (.int (3 : Int32)), .val (.int v176), .val (.int v177), .val (.int v178), .val (.int v179), .val (.int fl), .val (.ref oa), .val (.int (0 : Int32))]) rfl ?_
                      exact J302 (T181, _, (0 : Int32)) ⟨X181.more (by decide) (by decide), hh181, N181, (show (0 : Int32) = own_ei 0 (0 : Int32) v177 (3 : Int32) v176 ee1 from (by unfold own_ei; first | (exfalso; omega) | (rw [if_pos (by omega)]) | (rw [if_neg (by omega)])))⟩
                intro J282
                refine g_iconst Xj262 hx hby at_262 (pc' := 263) rfl (z := (1 : Int32)) rfl ?_
                refine g_iload Xj262 hx hby at_263 (pc' := 265) rfl rfl ?_
                by_cases hc265 : (1 : Int) < v177.toInt
                · refine g_icmpYes Xj262 hx hby at_265 (pc' := 282) (tlt (show (1 : Int32) < v177 from Int32.lt_iff_toInt_lt.mpr hc265)).1 (by decide) (by decide) ?_
                  exact J282 (Tj262, _, ee2) ⟨Xj262.more (by decide) (by decide), ej262, Nj262, (show ee2 = own_ei 1 (1 : Int32) v177 (3 : Int32) v176 ee2 from (by unfold own_ei; first | (exfalso; omega) | (rw [if_pos (by omega)]) | (rw [if_neg (by omega)])))⟩
                · refine g_icmpNo Xj262 hx hby at_265 (pc' := 268) (flt (show ¬ ((1 : Int32) < v177) from fun q => hc265 (Int32.lt_iff_toInt_lt.mp q))).1 rfl ?_
                  refine g_iconst Xj262 hx hby at_268 (pc' := 269) rfl (z := (1 : Int32)) rfl ?_
                  refine g_iload Xj262 hx hby at_269 (pc' := 271) rfl rfl ?_
                  refine g_iload Xj262 hx hby at_271 (pc' := 273) rfl rfl ?_
                  refine Go.callS Xj262 hx hZ (y := (⟨"com/example/edgewise/edgewise/EdgeSlotsNextLivePinLaw", "live", "(III)Z"⟩ : MethodName)) hown (wi hw 29 rfl) (wi hw 30 rfl) (wi hw 31 rfl) (wi hw 32 rfl) (by decide) ej262 (argsL := [(.int (1 : Int32)), (.int (3 : Int32)), (.int v176)]) (rest := []) (W := 0) (rm_live l Z a0 hw (1 : Int32) (3 : Int32) v176 hj198 n0 zj198 ) (hb hby at_273) (by rw [hml]; rfl) rfl pd_aIIIzZ rfl rfl (by decide) (by decide) (by decide) (by decide) ?_
                  intro v182 T182 L182 X182 hQ182
                  obtain ⟨rfl, Nq182, hh182⟩ := hQ182
                  have N182 := Fr.app Nj262 Nq182
                  show Go p.tables e below s _ _ _ (T182.setTop (mkF m 276 #[.val (.int p1), .val (.int p2), .val (.int p3), .val (.int p4), .val (.int p5), .val (.int p6), .val (.int (3 : Int32)), .val (.int v176), .val (.int v177), .val (.int v178), .val (.int v179), .val (.int fl), .val (.ref oa), .val (.int ee2)] [(.int (own_live (1 : Int32) (3 : Int32) v176))]))
                  by_cases hc276 : (own_live (1 : Int32) (3 : Int32) v176).toInt = (0 : Int)
                  · refine g_ifYes X182 hx hby at_276 (pc' := 282) (teq (show (own_live (1 : Int32) (3 : Int32) v176) = (0 : Int32) from Int32.toInt_inj.mp hc276)).1 (by decide) (by decide) ?_
                    exact J282 (T182, _, ee2) ⟨X182.more (by decide) (by decide), hh182, N182, (show ee2 = own_ei 1 (1 : Int32) v177 (3 : Int32) v176 ee2 from (by unfold own_ei; first | (exfalso; omega) | (rw [if_pos (by omega)]) | (rw [if_neg (by omega)])))⟩
                  · refine g_ifNo X182 hx hby at_276 (pc' := 279) (feq (show ¬ ((own_live (1 : Int32) (3 : Int32) v176) = (0 : Int32)) from fun q => hc276 (congrArg Int32.toInt q))).1 rfl ?_
                    refine g_iconst X182 hx hby at_279 (pc' := 280) rfl (z := (1 : Int32)) rfl ?_
                    refine g_istore X182 hx hby at_280 (pc' := 282) rfl (L' := #[.val (.int p1), .val (.int p2), .val (.int p3), .val (.int p4), .val (.int p5), .val (.int p6), .val (.int (3 : Int32)), .val (.int v176), .val (.int v177), .val (.int v178), .val (.int v179), .val (.int fl), .val (.ref oa), .val (.int (1 : Int32))]) rfl ?_
                    exact J282 (T182, _, (1 : Int32)) ⟨X182.more (by decide) (by decide), hh182, N182, (show (1 : Int32) = own_ei 1 (1 : Int32) v177 (3 : Int32) v176 ee2 from (by unfold own_ei; first | (exfalso; omega) | (rw [if_pos (by omega)]) | (rw [if_neg (by omega)])))⟩
              intro J262
              refine g_iconst Xj242 hx hby at_242 (pc' := 243) rfl (z := (2 : Int32)) rfl ?_
              refine g_iload Xj242 hx hby at_243 (pc' := 245) rfl rfl ?_
              by_cases hc245 : (2 : Int) < v177.toInt
              · refine g_icmpYes Xj242 hx hby at_245 (pc' := 262) (tlt (show (2 : Int32) < v177 from Int32.lt_iff_toInt_lt.mpr hc245)).1 (by decide) (by decide) ?_
                exact J262 (Tj242, _, ee3) ⟨Xj242.more (by decide) (by decide), ej242, Nj242, (show ee3 = own_ei 2 (2 : Int32) v177 (3 : Int32) v176 ee3 from (by unfold own_ei; first | (exfalso; omega) | (rw [if_pos (by omega)]) | (rw [if_neg (by omega)])))⟩
              · refine g_icmpNo Xj242 hx hby at_245 (pc' := 248) (flt (show ¬ ((2 : Int32) < v177) from fun q => hc245 (Int32.lt_iff_toInt_lt.mp q))).1 rfl ?_
                refine g_iconst Xj242 hx hby at_248 (pc' := 249) rfl (z := (2 : Int32)) rfl ?_
                refine g_iload Xj242 hx hby at_249 (pc' := 251) rfl rfl ?_
                refine g_iload Xj242 hx hby at_251 (pc' := 253) rfl rfl ?_
                refine Go.callS Xj242 hx hZ (y := (⟨"com/example/edgewise/edgewise/EdgeSlotsNextLivePinLaw", "live", "(III)Z"⟩ : MethodName)) hown (wi hw 29 rfl) (wi hw 30 rfl) (wi hw 31 rfl) (wi hw 32 rfl) (by decide) ej242 (argsL := [(.int (2 : Int32)), (.int (3 : Int32)), (.int v176)]) (rest := []) (W := 0) (rm_live l Z a0 hw (2 : Int32) (3 : Int32) v176 hj198 n0 zj198 ) (hb hby at_253) (by rw [hml]; rfl) rfl pd_aIIIzZ rfl rfl (by decide) (by decide) (by decide) (by decide) ?_
                intro v183 T183 L183 X183 hQ183
                obtain ⟨rfl, Nq183, hh183⟩ := hQ183
                have N183 := Fr.app Nj242 Nq183
                show Go p.tables e below s _ _ _ (T183.setTop (mkF m 256 #[.val (.int p1), .val (.int p2), .val (.int p3), .val (.int p4), .val (.int p5), .val (.int p6), .val (.int (3 : Int32)), .val (.int v176), .val (.int v177), .val (.int v178), .val (.int v179), .val (.int fl), .val (.ref oa), .val (.int ee3)] [(.int (own_live (2 : Int32) (3 : Int32) v176))]))
                by_cases hc256 : (own_live (2 : Int32) (3 : Int32) v176).toInt = (0 : Int)
                · refine g_ifYes X183 hx hby at_256 (pc' := 262) (teq (show (own_live (2 : Int32) (3 : Int32) v176) = (0 : Int32) from Int32.toInt_inj.mp hc256)).1 (by decide) (by decide) ?_
                  exact J262 (T183, _, ee3) ⟨X183.more (by decide) (by decide), hh183, N183, (show ee3 = own_ei 2 (2 : Int32) v177 (3 : Int32) v176 ee3 from (by unfold own_ei; first | (exfalso; omega) | (rw [if_pos (by omega)]) | (rw [if_neg (by omega)])))⟩
                · refine g_ifNo X183 hx hby at_256 (pc' := 259) (feq (show ¬ ((own_live (2 : Int32) (3 : Int32) v176) = (0 : Int32)) from fun q => hc256 (congrArg Int32.toInt q))).1 rfl ?_
                  refine g_iconst X183 hx hby at_259 (pc' := 260) rfl (z := (2 : Int32)) rfl ?_
                  refine g_istore X183 hx hby at_260 (pc' := 262) rfl (L' := #[.val (.int p1), .val (.int p2), .val (.int p3), .val (.int p4), .val (.int p5), .val (.int p6), .val (.int (3 : Int32)), .val (.int v176), .val (.int v177), .val (.int v178), .val (.int v179), .val (.int fl), .val (.ref oa), .val (.int (2 : Int32))]) rfl ?_
                  exact J262 (T183, _, (2 : Int32)) ⟨X183.more (by decide) (by decide), hh183, N183, (show (2 : Int32) = own_ei 2 (2 : Int32) v177 (3 : Int32) v176 ee3 from (by unfold own_ei; first | (exfalso; omega) | (rw [if_pos (by omega)]) | (rw [if_neg (by omega)])))⟩
            intro J242
            refine g_iconst Xj198 hx hby at_222 (pc' := 223) rfl (z := (3 : Int32)) rfl ?_
            refine g_iload Xj198 hx hby at_223 (pc' := 225) rfl rfl ?_
            by_cases hc225 : (3 : Int) < v177.toInt
            · refine g_icmpYes Xj198 hx hby at_225 (pc' := 242) (tlt (show (3 : Int32) < v177 from Int32.lt_iff_toInt_lt.mpr hc225)).1 (by decide) (by decide) ?_
              exact J242 (Tj198, _, (3 : Int32)) ⟨Xj198.more (by decide) (by decide), ej198, Nj198, (show (3 : Int32) = own_ei 3 (3 : Int32) v177 (3 : Int32) v176 (3 : Int32) from (by unfold own_ei; first | (exfalso; omega) | (rw [if_pos (by omega)]) | (rw [if_neg (by omega)])))⟩
            · refine g_icmpNo Xj198 hx hby at_225 (pc' := 228) (flt (show ¬ ((3 : Int32) < v177) from fun q => hc225 (Int32.lt_iff_toInt_lt.mp q))).1 rfl ?_
              refine g_iconst Xj198 hx hby at_228 (pc' := 229) rfl (z := (3 : Int32)) rfl ?_
              refine g_iload Xj198 hx hby at_229 (pc' := 231) rfl rfl ?_
              refine g_iload Xj198 hx hby at_231 (pc' := 233) rfl rfl ?_
              refine Go.callS Xj198 hx hZ (y := (⟨"com/example/edgewise/edgewise/EdgeSlotsNextLivePinLaw", "live", "(III)Z"⟩ : MethodName)) hown (wi hw 29 rfl) (wi hw 30 rfl) (wi hw 31 rfl) (wi hw 32 rfl) (by decide) ej198 (argsL := [(.int (3 : Int32)), (.int (3 : Int32)), (.int v176)]) (rest := []) (W := 0) (rm_live l Z a0 hw (3 : Int32) (3 : Int32) v176 hj198 n0 zj198 ) (hb hby at_233) (by rw [hml]; rfl) rfl pd_aIIIzZ rfl rfl (by decide) (by decide) (by decide) (by decide) ?_
              intro v184 T184 L184 X184 hQ184
              obtain ⟨rfl, Nq184, hh184⟩ := hQ184
              have N184 := Fr.app Nj198 Nq184
              show Go p.tables e below s _ _ _ (T184.setTop (mkF m 236 #[.val (.int p1), .val (.int p2), .val (.int p3), .val (.int p4), .val (.int p5), .val (.int p6), .val (.int (3 : Int32)), .val (.int v176), .val (.int v177), .val (.int v178), .val (.int v179), .val (.int fl), .val (.ref oa), .val (.int (3 : Int32))] [(.int (own_live (3 : Int32) (3 : Int32) v176))]))
              by_cases hc236 : (own_live (3 : Int32) (3 : Int32) v176).toInt = (0 : Int)
              · refine g_ifYes X184 hx hby at_236 (pc' := 242) (teq (show (own_live (3 : Int32) (3 : Int32) v176) = (0 : Int32) from Int32.toInt_inj.mp hc236)).1 (by decide) (by decide) ?_
                exact J242 (T184, _, (3 : Int32)) ⟨X184.more (by decide) (by decide), hh184, N184, (show (3 : Int32) = own_ei 3 (3 : Int32) v177 (3 : Int32) v176 (3 : Int32) from (by unfold own_ei; first | (exfalso; omega) | (rw [if_pos (by omega)]) | (rw [if_neg (by omega)])))⟩
              · refine g_ifNo X184 hx hby at_236 (pc' := 239) (feq (show ¬ ((own_live (3 : Int32) (3 : Int32) v176) = (0 : Int32)) from fun q => hc236 (congrArg Int32.toInt q))).1 rfl ?_
                refine g_iconst X184 hx hby at_239 (pc' := 240) rfl (z := (3 : Int32)) rfl ?_
                refine g_istore X184 hx hby at_240 (pc' := 242) rfl (L' := #[.val (.int p1), .val (.int p2), .val (.int p3), .val (.int p4), .val (.int p5), .val (.int p6), .val (.int (3 : Int32)), .val (.int v176), .val (.int v177), .val (.int v178), .val (.int v179), .val (.int fl), .val (.ref oa), .val (.int (3 : Int32))]) rfl ?_
                exact J242 (T184, _, (3 : Int32)) ⟨X184.more (by decide) (by decide), hh184, N184, (show (3 : Int32) = own_ei 3 (3 : Int32) v177 (3 : Int32) v176 (3 : Int32) from (by unfold own_ei; first | (exfalso; omega) | (rw [if_pos (by omega)]) | (rw [if_neg (by omega)])))⟩
          intro J198
          refine g_iload Xj179 hx hby at_185 (pc' := 187) rfl rfl ?_
          refine g_iconst Xj179 hx hby at_187 (pc' := 188) rfl (z := (4 : Int32)) rfl ?_
          refine g_iand Xj179 hx hby at_188 (pc' := 189) rfl rfl ?_
          by_cases hc189 : (v176 &&& (4 : Int32)).toInt = (0 : Int)
          · refine g_ifYes Xj179 hx hby at_189 (pc' := 198) (teq (show (v176 &&& (4 : Int32)) = (0 : Int32) from Int32.toInt_inj.mp hc189)).1 (by decide) (by decide) ?_
            exact J198 (Tj179, _, hj179, ga1, gb1, ca1) ⟨Xj179.more (by decide) (by decide), ej179, Nj179, zj179, fj179_0, fj179_1, fj179_2, fj179_3, fj179_4, fj179_5, fj179_6, (show ga1 = own_rm ga1 v176 (4 : Int32) 2 from (by unfold own_rm; rw [if_pos hc189]))⟩
          · refine g_ifNo Xj179 hx hby at_189 (pc' := 192) (feq (show ¬ ((v176 &&& (4 : Int32)) = (0 : Int32)) from fun q => hc189 (congrArg Int32.toInt q))).1 rfl ?_
            refine g_aload Xj179 hx hby at_192 (pc' := 194) rfl rfl rfl ?_
            refine g_iconst Xj179 hx hby at_194 (pc' := 195) rfl (z := (2 : Int32)) rfl ?_
            refine Go.callV Xj179 hx hZ (y := (⟨"com/example/edgewise/edgewise/EdgeSlots", "remove", "(I)V"⟩ : MethodName)) (z := (⟨"com/example/edgewise/edgewise/EdgeSlots", "remove", "(I)V"⟩ : MethodName)) hown (wi hw 85 rfl) (wi hw 86 rfl) (notFace_of_selects (args := #[]) (mvT hZ (wi hw 88 rfl))) (wi hw 88 rfl) (wi hw 87 rfl) (wi hw 3 rfl) (wi hw 89 rfl) (by decide) ej179 (a := oa) (argsL := [(.int (2 : Int32))]) (rest := []) (W := 0) fj179_0 (rm_remove4 l Z a0 hw oa (2 : Int32) xa xb ga1 gb1 (3 : Int32) ca1 2 hj179 n0 zj179 fj179_0 fj179_1 fj179_2 fj179_5 fj179_6 fj179_3 fj179_4 ne1 ne2 ne3 ge1 ge2 ge3 rfl (by decide)) (hb hby at_195) (by rw [hml]; rfl) rfl pd_aIzV rfl rfl (by decide) (by decide) (by decide) (by decide) ?_
            intro v185 T185 L185 X185 hQ185
            obtain ⟨h185, e185⟩ : ∃ z, T185.heap = z := ⟨_, rfl⟩
            rw [e185] at hQ185
            obtain ⟨rfl, Nq185, Kq185, Fq0_185, Fq1_185, Fq2_185, Fq3_185, Fq4_185, Fq5_185⟩ := hQ185
            have N185 := Fr.app Nj179 Nq185
            show Go p.tables e below s _ _ _ (T185.setTop (mkF m 198 #[.val (.int p1), .val (.int p2), .val (.int p3), .val (.int p4), .val (.int p5), .val (.int p6), .val (.int (3 : Int32)), .val (.int v176), .val (.int v177), .val (.int v178), .val (.int v179), .val (.int fl), .val (.ref oa), .unset] []))
            have f186 := fj179_0.keep Kq185
            exact J198 (T185, _, h185, (upI ga1 2 (-1 : Int32)), (upI gb1 2 (-1 : Int32)), (ca1 - (1 : Int32))) ⟨X185.more (by decide) (by decide), e185, N185, (Nat.le_trans zj179 Kq185.1), f186, Fq0_185, Fq1_185, Fq4_185, Fq5_185, Fq2_185, Fq3_185, (show (upI ga1 2 (-1 : Int32)) = own_rm ga1 v176 (4 : Int32) 2 from (by unfold own_rm; rw [if_neg hc189]))⟩
        intro J179
        refine g_iload Xj160 hx hby at_166 (pc' := 168) rfl rfl ?_
        refine g_iconst Xj160 hx hby at_168 (pc' := 169) rfl (z := (2 : Int32)) rfl ?_
        refine g_iand Xj160 hx hby at_169 (pc' := 170) rfl rfl ?_
        by_cases hc170 : (v176 &&& (2 : Int32)).toInt = (0 : Int)
        · refine g_ifYes Xj160 hx hby at_170 (pc' := 179) (teq (show (v176 &&& (2 : Int32)) = (0 : Int32) from Int32.toInt_inj.mp hc170)).1 (by decide) (by decide) ?_
          exact J179 (Tj160, _, hj160, ga0, gb0, ca0) ⟨Xj160.more (by decide) (by decide), ej160, Nj160, zj160, fj160_0, fj160_1, fj160_2, fj160_3, fj160_4, fj160_5, fj160_6, (show ga0 = own_rm ga0 v176 (2 : Int32) 1 from (by unfold own_rm; rw [if_pos hc170]))⟩
        · refine g_ifNo Xj160 hx hby at_170 (pc' := 173) (feq (show ¬ ((v176 &&& (2 : Int32)) = (0 : Int32)) from fun q => hc170 (congrArg Int32.toInt q))).1 rfl ?_
          refine g_aload Xj160 hx hby at_173 (pc' := 175) rfl rfl rfl ?_
          refine g_iconst Xj160 hx hby at_175 (pc' := 176) rfl (z := (1 : Int32)) rfl ?_
          refine Go.callV Xj160 hx hZ (y := (⟨"com/example/edgewise/edgewise/EdgeSlots", "remove", "(I)V"⟩ : MethodName)) (z := (⟨"com/example/edgewise/edgewise/EdgeSlots", "remove", "(I)V"⟩ : MethodName)) hown (wi hw 85 rfl) (wi hw 86 rfl) (notFace_of_selects (args := #[]) (mvT hZ (wi hw 88 rfl))) (wi hw 88 rfl) (wi hw 87 rfl) (wi hw 3 rfl) (wi hw 89 rfl) (by decide) ej160 (a := oa) (argsL := [(.int (1 : Int32))]) (rest := []) (W := 0) fj160_0 (rm_remove4 l Z a0 hw oa (1 : Int32) xa xb ga0 gb0 (3 : Int32) ca0 1 hj160 n0 zj160 fj160_0 fj160_1 fj160_2 fj160_5 fj160_6 fj160_3 fj160_4 ne1 ne2 ne3 ge1 ge2 ge3 rfl (by decide)) (hb hby at_176) (by rw [hml]; rfl) rfl pd_aIzV rfl rfl (by decide) (by decide) (by decide) (by decide) ?_
          intro v187 T187 L187 X187 hQ187
          obtain ⟨h187, e187⟩ : ∃ z, T187.heap = z := ⟨_, rfl⟩
          rw [e187] at hQ187
          obtain ⟨rfl, Nq187, Kq187, Fq0_187, Fq1_187, Fq2_187, Fq3_187, Fq4_187, Fq5_187⟩ := hQ187
          have N187 := Fr.app Nj160 Nq187
          show Go p.tables e below s _ _ _ (T187.setTop (mkF m 179 #[.val (.int p1), .val (.int p2), .val (.int p3), .val (.int p4), .val (.int p5), .val (.int p6), .val (.int (3 : Int32)), .val (.int v176), .val (.int v177), .val (.int v178), .val (.int v179), .val (.int fl), .val (.ref oa), .unset] []))
          have f188 := fj160_0.keep Kq187
          exact J179 (T187, _, h187, (upI ga0 1 (-1 : Int32)), (upI gb0 1 (-1 : Int32)), (ca0 - (1 : Int32))) ⟨X187.more (by decide) (by decide), e187, N187, (Nat.le_trans zj160 Kq187.1), f188, Fq0_187, Fq1_187, Fq4_187, Fq5_187, Fq2_187, Fq3_187, (show (upI ga0 1 (-1 : Int32)) = own_rm ga0 v176 (2 : Int32) 1 from (by unfold own_rm; rw [if_neg hc170]))⟩
      intro J160
      refine g_iload Xj142 hx hby at_147 (pc' := 149) rfl rfl ?_
      refine g_iconst Xj142 hx hby at_149 (pc' := 150) rfl (z := (1 : Int32)) rfl ?_
      refine g_iand Xj142 hx hby at_150 (pc' := 151) rfl rfl ?_
      by_cases hc151 : (v176 &&& (1 : Int32)).toInt = (0 : Int)
      · refine g_ifYes Xj142 hx hby at_151 (pc' := 160) (teq (show (v176 &&& (1 : Int32)) = (0 : Int32) from Int32.toInt_inj.mp hc151)).1 (by decide) (by decide) ?_
        exact J160 (Tj142, _, hj142, (upI (upI (upI (fun _ => (0 : Int32)) 0 v178) 1 v179) 2 v178), (upI (upI (upI (fun _ => (0 : Int32)) 0 v179) 1 v178) 2 v178), (3 : Int32)) ⟨Xj142.more (by decide) (by decide), ej142, Nj142, zj142, fj142_0, fj142_1, fj142_2, fj142_3, fj142_4, fj142_5, fj142_6, (show (upI (upI (upI (fun _ => (0 : Int32)) 0 v178) 1 v179) 2 v178) = own_rm (upI (upI (upI (fun _ => (0 : Int32)) 0 v178) 1 v179) 2 v178) v176 (1 : Int32) 0 from (by unfold own_rm; rw [if_pos hc151]))⟩
      · refine g_ifNo Xj142 hx hby at_151 (pc' := 154) (feq (show ¬ ((v176 &&& (1 : Int32)) = (0 : Int32)) from fun q => hc151 (congrArg Int32.toInt q))).1 rfl ?_
        refine g_aload Xj142 hx hby at_154 (pc' := 156) rfl rfl rfl ?_
        refine g_iconst Xj142 hx hby at_156 (pc' := 157) rfl (z := (0 : Int32)) rfl ?_
        refine Go.callV Xj142 hx hZ (y := (⟨"com/example/edgewise/edgewise/EdgeSlots", "remove", "(I)V"⟩ : MethodName)) (z := (⟨"com/example/edgewise/edgewise/EdgeSlots", "remove", "(I)V"⟩ : MethodName)) hown (wi hw 85 rfl) (wi hw 86 rfl) (notFace_of_selects (args := #[]) (mvT hZ (wi hw 88 rfl))) (wi hw 88 rfl) (wi hw 87 rfl) (wi hw 3 rfl) (wi hw 89 rfl) (by decide) ej142 (a := oa) (argsL := [(.int (0 : Int32))]) (rest := []) (W := 0) fj142_0 (rm_remove4 l Z a0 hw oa (0 : Int32) xa xb (upI (upI (upI (fun _ => (0 : Int32)) 0 v178) 1 v179) 2 v178) (upI (upI (upI (fun _ => (0 : Int32)) 0 v179) 1 v178) 2 v178) (3 : Int32) (3 : Int32) 0 hj142 n0 zj142 fj142_0 fj142_1 fj142_2 fj142_5 fj142_6 fj142_3 fj142_4 ne1 ne2 ne3 ge1 ge2 ge3 rfl (by decide)) (hb hby at_157) (by rw [hml]; rfl) rfl pd_aIzV rfl rfl (by decide) (by decide) (by decide) (by decide) ?_
        intro v189 T189 L189 X189 hQ189
        obtain ⟨h189, e189⟩ : ∃ z, T189.heap = z := ⟨_, rfl⟩
        rw [e189] at hQ189
        obtain ⟨rfl, Nq189, Kq189, Fq0_189, Fq1_189, Fq2_189, Fq3_189, Fq4_189, Fq5_189⟩ := hQ189
        have N189 := Fr.app Nj142 Nq189
        have Fq5_189 : Fld Z h189 oa "com/example/edgewise/edgewise/EdgeSlots" "count" "I" (.int (2 : Int32)) := Fq5_189
        show Go p.tables e below s _ _ _ (T189.setTop (mkF m 160 #[.val (.int p1), .val (.int p2), .val (.int p3), .val (.int p4), .val (.int p5), .val (.int p6), .val (.int (3 : Int32)), .val (.int v176), .val (.int v177), .val (.int v178), .val (.int v179), .val (.int fl), .val (.ref oa), .unset] []))
        have f190 := fj142_0.keep Kq189
        exact J160 (T189, _, h189, (upI (upI (upI (upI (fun _ => (0 : Int32)) 0 v178) 1 v179) 2 v178) 0 (-1 : Int32)), (upI (upI (upI (upI (fun _ => (0 : Int32)) 0 v179) 1 v178) 2 v178) 0 (-1 : Int32)), (2 : Int32)) ⟨X189.more (by decide) (by decide), e189, N189, (Nat.le_trans zj142 Kq189.1), f190, Fq0_189, Fq1_189, Fq4_189, Fq5_189, Fq2_189, Fq3_189, (show (upI (upI (upI (upI (fun _ => (0 : Int32)) 0 v178) 1 v179) 2 v178) 0 (-1 : Int32)) = own_rm (upI (upI (upI (fun _ => (0 : Int32)) 0 v178) 1 v179) 2 v178) v176 (1 : Int32) 0 from (by unfold own_rm; rw [if_neg hc151]))⟩
    intro J142
    refine g_iload X0 hx hby at_38 (pc' := 40) rfl rfl ?_
    refine g_iconst X0 hx hby at_40 (pc' := 41) rfl (z := (1 : Int32)) rfl ?_
    refine g_iand X0 hx hby at_41 (pc' := 42) rfl rfl ?_
    by_cases hc42 : (p6 &&& (1 : Int32)).toInt = (0 : Int)
    · refine g_ifYes X0 hx hby at_42 (pc' := 49) (teq (show (p6 &&& (1 : Int32)) = (0 : Int32) from Int32.toInt_inj.mp hc42)).1 (by decide) (by decide) ?_
      refine g_iconst X0 hx hby at_49 (pc' := 50) rfl (z := (0 : Int32)) rfl ?_
      refine g_istore X0 hx hby at_50 (pc' := 52) rfl (L' := #[.val (.int p1), .val (.int p2), .val (.int p3), .val (.int p4), .val (.int p5), .val (.int p6), .val (.int (3 : Int32)), .val (.int v176), .val (.int v177), .val (.int v178), .val (.int v179), .val (.int (0 : Int32)), .unset, .unset]) rfl ?_
      have hk0 : True := trivial
      refine g_new X0 hx hby hZ hown (wi hw 1 rfl) (wi hw 2 rfl) (wi hw 3 rfl) e0 at_52 (pc' := 55) rfl (by decide) (by decide) ?_
      intro T191 h191 b191 X191 e191 E191 hb191 A191 D191
      have g192 : n0 ≤ b191 := by rw [hb191]; exact Z0
      have F193 : Fld Z h191 b191 "com/example/edgewise/edgewise/EdgeSlots" "sources" "[I" .null := D191 (Or.inl (wi hw 12 rfl)) (ty := (.array .int)) (by decide)
      have F194 : Fld Z h191 b191 "com/example/edgewise/edgewise/EdgeSlots" "targets" "[I" .null := D191 (Or.inl (wi hw 14 rfl)) (ty := (.array .int)) (by decide)
      have F195 : Fld Z h191 b191 "com/example/edgewise/edgewise/EdgeSlots" "sourcePositions" "[I" .null := D191 (Or.inl (wi hw 16 rfl)) (ty := (.array .int)) (by decide)
      have F196 : Fld Z h191 b191 "com/example/edgewise/edgewise/EdgeSlots" "targetPositions" "[I" .null := D191 (Or.inl (wi hw 18 rfl)) (ty := (.array .int)) (by decide)
      have F197 : Fld Z h191 b191 "com/example/edgewise/edgewise/EdgeSlots" "weights" "[D" .null := D191 (Or.inl (wi hw 21 rfl)) (ty := (.array .double)) (by decide)
      have F198 : Fld Z h191 b191 "com/example/edgewise/edgewise/EdgeSlots" "keys" "[I" .null := D191 (Or.inl (wi hw 23 rfl)) (ty := (.array .int)) (by decide)
      have F199 : Fld Z h191 b191 "com/example/edgewise/edgewise/EdgeSlots" "keptNumbers" "[J" .null := D191 (Or.inl (wi hw 26 rfl)) (ty := (.array .long)) (by decide)
      have F200 : Fld Z h191 b191 "com/example/edgewise/edgewise/EdgeSlots" "keyed" "Z" (.int (0 : Int32)) := D191 (Or.inr (wi hw 28 rfl)) (ty := .boolean) (by decide)
      have F201 : Fld Z h191 b191 "com/example/edgewise/edgewise/EdgeSlots" "bound" "I" (.int (0 : Int32)) := D191 (Or.inl (wi hw 39 rfl)) (ty := .int) (by decide)
      have F202 : Fld Z h191 b191 "com/example/edgewise/edgewise/EdgeSlots" "count" "I" (.int (0 : Int32)) := D191 (Or.inl (wi hw 79 rfl)) (ty := .int) (by decide)
      have F203 : Fld Z h191 b191 "com/example/edgewise/edgewise/EdgeSlots" "nextNumber" "J" (.long (0 : Int64)) := D191 (Or.inl (wi hw 81 rfl)) (ty := .long) (by decide)
      refine g_dup X191 hx hby at_55 (pc' := 56) rfl rfl ?_
      refine g_iload X191 hx hby at_56 (pc' := 58) rfl rfl ?_
      refine Go.callI X191 hx hZ (y := (⟨"com/example/edgewise/edgewise/EdgeSlots", "<init>", "(Z)V"⟩ : MethodName)) hown rfl (wi hw 4 rfl) (wi hw 5 rfl) (wi hw 3 rfl) (wi hw 6 rfl) (by decide) e191 (a := b191) (argsL := [(.int (0 : Int32))]) (rest := [(.ref b191)]) (W := 1) (rm_init0 l Z a0 hw b191 h191 n0 (Nat.le_trans Z0 E191.1) A191 F193 F194 F195 F196 F197 F198 F199 F200 F201 F202 F203 g192) (hb hby at_58) (by rw [hml]; rfl) rfl pd_aZzV rfl rfl (by decide) (by decide) (by decide) (by decide) ?_
      intro v204 T204 L204 X204 hQ204
      obtain ⟨h204, e204⟩ : ∃ z, T204.heap = z := ⟨_, rfl⟩
      rw [e204] at hQ204
      obtain ⟨b1_204, b2_204, b3_204, b4_204, b5_204, b6_204, b7_204, rfl, Nq204, Kq204, gqb1_204, sqb1_204, gqb2_204, sqb2_204, gqb3_204, sqb3_204, gqb4_204, sqb4_204, gqb5_204, sqb5_204, gqb6_204, sqb6_204, gqb7_204, sqb7_204, nqb1_b2_204, nqb1_b3_204, nqb1_b4_204, nqb1_b5_204, nqb1_b6_204, nqb1_b7_204, nqb2_b3_204, nqb2_b4_204, nqb2_b5_204, nqb2_b6_204, nqb2_b7_204, nqb3_b4_204, nqb3_b5_204, nqb3_b6_204, nqb3_b7_204, nqb4_b5_204, nqb4_b6_204, nqb4_b7_204, nqb5_b6_204, nqb5_b7_204, nqb6_b7_204, Fq0_204, Fq1_204, Fq2_204, Fq3_204, Fq4_204, Fq5_204, Fq6_204, Fq7_204, Fq8_204, Fq9_204, Fq10_204, Fq11_204, Fq12_204, Fq13_204, Fq14_204, Fq15_204, Fq16_204, Fq17_204⟩ := hQ204
      have N204 := Fr.app N0 Nq204
      show Go p.tables e below s _ _ _ (T204.setTop (mkF m 61 #[.val (.int p1), .val (.int p2), .val (.int p3), .val (.int p4), .val (.int p5), .val (.int p6), .val (.int (3 : Int32)), .val (.int v176), .val (.int v177), .val (.int v178), .val (.int v179), .val (.int (0 : Int32)), .unset, .unset] [(.ref b191)]))
      refine g_astore X204 hx hby at_61 (pc' := 63) rfl rfl (L' := #[.val (.int p1), .val (.int p2), .val (.int p3), .val (.int p4), .val (.int p5), .val (.int p6), .val (.int (3 : Int32)), .val (.int v176), .val (.int v177), .val (.int v178), .val (.int v179), .val (.int (0 : Int32)), .val (.ref b191), .unset]) rfl ?_
      refine g_iload X204 hx hby at_63 (pc' := 65) rfl rfl ?_
      have hc65 : (0 : Int) < (3 : Int) := by decide
      refine g_ifNo X204 hx hby at_65 (pc' := 68) (tlt (show (0 : Int32) < (3 : Int32) from Int32.lt_iff_toInt_lt.mpr hc65)).2.2.2 rfl ?_
      refine g_aload X204 hx hby at_68 (pc' := 70) rfl rfl rfl ?_
      refine g_iload X204 hx hby at_70 (pc' := 72) rfl rfl ?_
      refine g_iload X204 hx hby at_72 (pc' := 74) rfl rfl ?_
      refine Go.of (fun _ k => XS.dconst1 X204.here hx rfl (hb hby at_74) (v := FP.dconst1) rfl k) ?_
      show Go p.tables e below s _ _ _ (T204.setTop (mkF m 75 #[.val (.int p1), .val (.int p2), .val (.int p3), .val (.int p4), .val (.int p5), .val (.int p6), .val (.int (3 : Int32)), .val (.int v176), .val (.int v177), .val (.int v178), .val (.int v179), .val (.int (0 : Int32)), .val (.ref b191), .unset] [(.double FP.dconst1), (.int v179), (.int v178), (.ref b191)]))
      refine g_iload X204 hx hby at_75 (pc' := 77) rfl rfl ?_
      have f206 := A191.keep Kq204
      have ne207 : b191 ≠ b1_204 := Nat.ne_of_lt (Nat.lt_of_lt_of_le F203.lt sqb1_204)
      have ne208 : b191 ≠ b2_204 := Nat.ne_of_lt (Nat.lt_of_lt_of_le F203.lt sqb2_204)
      have ne209 : b191 ≠ b3_204 := Nat.ne_of_lt (Nat.lt_of_lt_of_le F203.lt sqb3_204)
      have ne210 : b191 ≠ b4_204 := Nat.ne_of_lt (Nat.lt_of_lt_of_le F203.lt sqb4_204)
      have ne211 : b191 ≠ b5_204 := Nat.ne_of_lt (Nat.lt_of_lt_of_le F203.lt sqb5_204)
      have ne212 : b191 ≠ b6_204 := Nat.ne_of_lt (Nat.lt_of_lt_of_le F203.lt sqb6_204)
      refine Go.callV X204 hx hZ (y := (⟨"com/example/edgewise/edgewise/EdgeSlots", "add", "(IIDI)I"⟩ : MethodName)) (z := (⟨"com/example/edgewise/edgewise/EdgeSlots", "add", "(IIDI)I"⟩ : MethodName)) hown (wi hw 40 rfl) (wi hw 41 rfl) (notFace_of_selects (args := #[]) (mvT hZ (wi hw 43 rfl))) (wi hw 43 rfl) (wi hw 42 rfl) (wi hw 3 rfl) (wi hw 44 rfl) (by decide) e204 (a := b191) (argsL := [(.int v178), (.int v179), (.double FP.dconst1), (.int v178)]) (rest := []) (W := 0) f206 (rm_addA0 l Z a0 hw b191 v178 v179 FP.dconst1 v178 b1_204 b2_204 b3_204 b4_204 b5_204 b6_204 b7_204 (fun _ => (0 : Int32)) (fun _ => (0 : Int32)) (fun _ => (0 : Int32)) (fun _ => (0 : Int32)) (fun _ => (0 : UInt64)) (fun _ => (0 : Int32)) (0 : Int32) (0 : Int64) h204 n0 (Nat.le_trans (Nat.le_trans Z0 E191.1) Kq204.1) f206 Fq7_204 Fq6_204 Fq0_204 Fq1_204 Fq2_204 Fq3_204 Fq4_204 Fq5_204 Fq11_204 Fq12_204 Fq13_204 Fq14_204 Fq15_204 Fq16_204 Fq8_204 Fq9_204 Fq10_204 (Ne.symm ne207) (Ne.symm ne208) (Ne.symm ne209) (Ne.symm ne210) (Ne.symm ne211) (Ne.symm ne212) g192) (hb hby at_77) (by rw [hml]; rfl) rfl pd_aIIDIzI rfl rfl (by decide) (by decide) (by decide) (by decide) ?_
      intro v205 T205 L205 X205 hQ205
      obtain ⟨h205, e205⟩ : ∃ z, T205.heap = z := ⟨_, rfl⟩
      rw [e205] at hQ205
      obtain ⟨b1_205, b2_205, b3_205, b4_205, b5_205, rfl, Nq205, Kq205, gqb1_205, sqb1_205, gqb2_205, sqb2_205, gqb3_205, sqb3_205, gqb4_205, sqb4_205, gqb5_205, sqb5_205, nqb1_b2_205, nqb1_b3_205, nqb1_b4_205, nqb1_b5_205, nqb2_b3_205, nqb2_b4_205, nqb2_b5_205, nqb3_b4_205, nqb3_b5_205, nqb4_b5_205, Fq0_205, Fq1_205, Fq2_205, Fq3_205, Fq4_205, Fq5_205, Fq6_205, Fq7_205, Fq8_205, Fq9_205, Fq10_205, Fq11_205, Fq12_205, Fq13_205, Fq14_205, Fq15_205⟩ := hQ205
      have N205 := Fr.app N204 Nq205
      have Fq9_205 : Fld Z h205 b191 "com/example/edgewise/edgewise/EdgeSlots" "count" "I" (.int (1 : Int32)) := Fq9_205
      have Fq10_205 : Fld Z h205 b191 "com/example/edgewise/edgewise/EdgeSlots" "nextNumber" "J" (.long (1 : Int64)) := Fq10_205
      show Go p.tables e below s _ _ _ (T205.setTop (mkF m 80 #[.val (.int p1), .val (.int p2), .val (.int p3), .val (.int p4), .val (.int p5), .val (.int p6), .val (.int (3 : Int32)), .val (.int v176), .val (.int v177), .val (.int v178), .val (.int v179), .val (.int (0 : Int32)), .val (.ref b191), .unset] [(.int (0 : Int32))]))
      refine g_pop X205 hx hby at_80 (pc' := 81) rfl rfl ?_
      refine g_iload X205 hx hby at_81 (pc' := 83) rfl rfl ?_
      refine g_iconst X205 hx hby at_83 (pc' := 84) rfl (z := (1 : Int32)) rfl ?_
      have hc84 : (1 : Int) < (3 : Int) := by decide
      refine g_icmpNo X205 hx hby at_84 (pc' := 87) (tlt (show (1 : Int32) < (3 : Int32) from Int32.lt_iff_toInt_lt.mpr hc84)).2.2.2 rfl ?_
      refine g_aload X205 hx hby at_87 (pc' := 89) rfl rfl rfl ?_
      refine g_iload X205 hx hby at_89 (pc' := 91) rfl rfl ?_
      refine g_iload X205 hx hby at_91 (pc' := 93) rfl rfl ?_
      refine g_ldcD X205 hx hby hZ hown (wi hw 82 rfl) at_93 (pc' := 96) rfl ?_
      refine g_iload X205 hx hby at_96 (pc' := 98) rfl rfl ?_
      have f214 := f206.keep Kq205
      have ne215 : b191 ≠ b1_205 := Nat.ne_of_lt (Nat.lt_of_lt_of_le f206.lt sqb1_205)
      have ne216 : b191 ≠ b2_205 := Nat.ne_of_lt (Nat.lt_of_lt_of_le f206.lt sqb2_205)
      have ne217 : b191 ≠ b5_205 := Nat.ne_of_lt (Nat.lt_of_lt_of_le f206.lt sqb5_205)
      refine Go.callV X205 hx hZ (y := (⟨"com/example/edgewise/edgewise/EdgeSlots", "add", "(IIDI)I"⟩ : MethodName)) (z := (⟨"com/example/edgewise/edgewise/EdgeSlots", "add", "(IIDI)I"⟩ : MethodName)) hown (wi hw 40 rfl) (wi hw 41 rfl) (notFace_of_selects (args := #[]) (mvT hZ (wi hw 43 rfl))) (wi hw 43 rfl) (wi hw 42 rfl) (wi hw 3 rfl) (wi hw 44 rfl) (by decide) e205 (a := b191) (argsL := [(.int v179), (.int v178), (.double (4611686018427387904 : UInt64)), (.int v179)]) (rest := []) (W := 0) f214 (rm_addB0 l Z a0 hw b191 v179 v178 (4611686018427387904 : UInt64) v179 b1_205 b2_205 b3_205 b4_205 b5_205 b6_204 b7_204 (upI (fun _ => (0 : Int32)) 0 v178) (upI (fun _ => (0 : Int32)) 0 v179) (upD (fun _ => (0 : UInt64)) 0 FP.dconst1) (1 : Int32) (1 : Int32) (1 : Int64) 1 h205 n0 (Nat.le_trans (Nat.le_trans (Nat.le_trans Z0 E191.1) Kq204.1) Kq205.1) f214 Fq0_205 Fq1_205 Fq2_205 Fq3_205 Fq4_205 Fq5_205 Fq6_205 Fq7_205 Fq11_205 Fq12_205 Fq15_205 Fq8_205 Fq9_205 Fq10_205 (Ne.symm ne215) (Ne.symm ne216) (Ne.symm ne217) nqb1_b2_205 nqb1_b5_205 nqb2_b5_205 g192 gqb1_205 gqb2_205 gqb5_205 rfl (by decide)) (hb hby at_98) (by rw [hml]; rfl) rfl pd_aIIDIzI rfl rfl (by decide) (by decide) (by decide) (by decide) ?_
      intro v213 T213 L213 X213 hQ213
      obtain ⟨h213, e213⟩ : ∃ z, T213.heap = z := ⟨_, rfl⟩
      rw [e213] at hQ213
      obtain ⟨rfl, Nq213, Kq213, Fq0_213, Fq1_213, Fq2_213, Fq3_213, Fq4_213, Fq5_213, Fq6_213, Fq7_213, Fq8_213, Fq9_213, Fq10_213, Fq11_213, Fq12_213, Fq13_213⟩ := hQ213
      have N213 := Fr.app N205 Nq213
      have Fq8_213 : Fld Z h213 b191 "com/example/edgewise/edgewise/EdgeSlots" "bound" "I" (.int (2 : Int32)) := Fq8_213
      have Fq9_213 : Fld Z h213 b191 "com/example/edgewise/edgewise/EdgeSlots" "count" "I" (.int (2 : Int32)) := Fq9_213
      have Fq10_213 : Fld Z h213 b191 "com/example/edgewise/edgewise/EdgeSlots" "nextNumber" "J" (.long (2 : Int64)) := Fq10_213
      show Go p.tables e below s _ _ _ (T213.setTop (mkF m 101 #[.val (.int p1), .val (.int p2), .val (.int p3), .val (.int p4), .val (.int p5), .val (.int p6), .val (.int (3 : Int32)), .val (.int v176), .val (.int v177), .val (.int v178), .val (.int v179), .val (.int (0 : Int32)), .val (.ref b191), .unset] [(.int (1 : Int32))]))
      refine g_pop X213 hx hby at_101 (pc' := 102) rfl rfl ?_
      refine g_iload X213 hx hby at_102 (pc' := 104) rfl rfl ?_
      refine g_iconst X213 hx hby at_104 (pc' := 105) rfl (z := (2 : Int32)) rfl ?_
      have hc105 : (2 : Int) < (3 : Int) := by decide
      refine g_icmpNo X213 hx hby at_105 (pc' := 108) (tlt (show (2 : Int32) < (3 : Int32) from Int32.lt_iff_toInt_lt.mpr hc105)).2.2.2 rfl ?_
      refine g_aload X213 hx hby at_108 (pc' := 110) rfl rfl rfl ?_
      refine g_iload X213 hx hby at_110 (pc' := 112) rfl rfl ?_
      refine g_iload X213 hx hby at_112 (pc' := 114) rfl rfl ?_
      refine g_ldcD X213 hx hby hZ hown (wi hw 83 rfl) at_114 (pc' := 117) rfl ?_
      refine g_iconst X213 hx hby at_117 (pc' := 118) rfl (z := (0 : Int32)) rfl ?_
      have f219 := f214.keep Kq213
      refine Go.callV X213 hx hZ (y := (⟨"com/example/edgewise/edgewise/EdgeSlots", "add", "(IIDI)I"⟩ : MethodName)) (z := (⟨"com/example/edgewise/edgewise/EdgeSlots", "add", "(IIDI)I"⟩ : MethodName)) hown (wi hw 40 rfl) (wi hw 41 rfl) (notFace_of_selects (args := #[]) (mvT hZ (wi hw 43 rfl))) (wi hw 43 rfl) (wi hw 42 rfl) (wi hw 3 rfl) (wi hw 44 rfl) (by decide) e213 (a := b191) (argsL := [(.int v178), (.int v178), (.double (4613937818241073152 : UInt64)), (.int (0 : Int32))]) (rest := []) (W := 0) f219 (rm_addB0 l Z a0 hw b191 v178 v178 (4613937818241073152 : UInt64) (0 : Int32) b1_205 b2_205 b3_205 b4_205 b5_205 b6_204 b7_204 (upI (upI (fun _ => (0 : Int32)) 0 v178) 1 v179) (upI (upI (fun _ => (0 : Int32)) 0 v179) 1 v178) (upD (upD (fun _ => (0 : UInt64)) 0 FP.dconst1) 1 (4611686018427387904 : UInt64)) (2 : Int32) (2 : Int32) (2 : Int64) 2 h213 n0 (Nat.le_trans (Nat.le_trans (Nat.le_trans (Nat.le_trans Z0 E191.1) Kq204.1) Kq205.1) Kq213.1) f219 Fq0_213 Fq1_213 Fq2_213 Fq3_213 Fq4_213 Fq5_213 Fq6_213 Fq7_213 Fq11_213 Fq12_213 Fq13_213 Fq8_213 Fq9_213 Fq10_213 (Ne.symm ne215) (Ne.symm ne216) (Ne.symm ne217) nqb1_b2_205 nqb1_b5_205 nqb2_b5_205 g192 gqb1_205 gqb2_205 gqb5_205 rfl (by decide)) (hb hby at_118) (by rw [hml]; rfl) rfl pd_aIIDIzI rfl rfl (by decide) (by decide) (by decide) (by decide) ?_
      intro v218 T218 L218 X218 hQ218
      obtain ⟨h218, e218⟩ : ∃ z, T218.heap = z := ⟨_, rfl⟩
      rw [e218] at hQ218
      obtain ⟨rfl, Nq218, Kq218, Fq0_218, Fq1_218, Fq2_218, Fq3_218, Fq4_218, Fq5_218, Fq6_218, Fq7_218, Fq8_218, Fq9_218, Fq10_218, Fq11_218, Fq12_218, Fq13_218⟩ := hQ218
      have N218 := Fr.app N213 Nq218
      have Fq8_218 : Fld Z h218 b191 "com/example/edgewise/edgewise/EdgeSlots" "bound" "I" (.int (3 : Int32)) := Fq8_218
      have Fq9_218 : Fld Z h218 b191 "com/example/edgewise/edgewise/EdgeSlots" "count" "I" (.int (3 : Int32)) := Fq9_218
      have Fq10_218 : Fld Z h218 b191 "com/example/edgewise/edgewise/EdgeSlots" "nextNumber" "J" (.long (3 : Int64)) := Fq10_218
      show Go p.tables e below s _ _ _ (T218.setTop (mkF m 121 #[.val (.int p1), .val (.int p2), .val (.int p3), .val (.int p4), .val (.int p5), .val (.int p6), .val (.int (3 : Int32)), .val (.int v176), .val (.int v177), .val (.int v178), .val (.int v179), .val (.int (0 : Int32)), .val (.ref b191), .unset] [(.int (2 : Int32))]))
      refine g_pop X218 hx hby at_121 (pc' := 122) rfl rfl ?_
      refine g_iload X218 hx hby at_122 (pc' := 124) rfl rfl ?_
      refine g_iconst X218 hx hby at_124 (pc' := 125) rfl (z := (3 : Int32)) rfl ?_
      have hc125 : ¬ ((3 : Int) < (3 : Int)) := by decide
      refine g_icmpYes X218 hx hby at_125 (pc' := 142) (flt (show ¬ ((3 : Int32) < (3 : Int32)) from fun q => hc125 (Int32.lt_iff_toInt_lt.mp q))).2.2.2 (by decide) (by decide) ?_
      have f220 := f219.keep Kq218
      exact J142 (T218, _, h218, (0 : Int32), b191, b1_205, b2_205) ⟨X218.more (by decide) (by decide), e218, N218, (Nat.le_trans (Nat.le_trans (Nat.le_trans (Nat.le_trans (Nat.le_trans Z0 E191.1) Kq204.1) Kq205.1) Kq213.1) Kq218.1), f220, Fq2_218, Fq3_218, Fq8_218, Fq9_218, Fq11_218, Fq12_218, (show b1_205 ≠ b191 ∧ b2_205 ≠ b191 ∧ b1_205 ≠ b2_205 ∧ n0 ≤ b191 ∧ n0 ≤ b1_205 ∧ n0 ≤ b2_205 from ⟨(Ne.symm ne215), (Ne.symm ne216), nqb1_b2_205, g192, gqb1_205, gqb2_205⟩)⟩
    · refine g_ifNo X0 hx hby at_42 (pc' := 45) (feq (show ¬ ((p6 &&& (1 : Int32)) = (0 : Int32)) from fun q => hc42 (congrArg Int32.toInt q))).1 rfl ?_
      refine g_iconst X0 hx hby at_45 (pc' := 46) rfl (z := (1 : Int32)) rfl ?_
      refine g_goto X0 hx hby at_46 (pc' := 50) (by decide) (by decide) ?_
      refine g_istore X0 hx hby at_50 (pc' := 52) rfl (L' := #[.val (.int p1), .val (.int p2), .val (.int p3), .val (.int p4), .val (.int p5), .val (.int p6), .val (.int (3 : Int32)), .val (.int v176), .val (.int v177), .val (.int v178), .val (.int v179), .val (.int (1 : Int32)), .unset, .unset]) rfl ?_
      have hk0 : True := trivial
      refine g_new X0 hx hby hZ hown (wi hw 1 rfl) (wi hw 2 rfl) (wi hw 3 rfl) e0 at_52 (pc' := 55) rfl (by decide) (by decide) ?_
      intro T221 h221 b221 X221 e221 E221 hb221 A221 D221
      have g222 : n0 ≤ b221 := by rw [hb221]; exact Z0
      have F223 : Fld Z h221 b221 "com/example/edgewise/edgewise/EdgeSlots" "sources" "[I" .null := D221 (Or.inl (wi hw 12 rfl)) (ty := (.array .int)) (by decide)
      have F224 : Fld Z h221 b221 "com/example/edgewise/edgewise/EdgeSlots" "targets" "[I" .null := D221 (Or.inl (wi hw 14 rfl)) (ty := (.array .int)) (by decide)
      have F225 : Fld Z h221 b221 "com/example/edgewise/edgewise/EdgeSlots" "sourcePositions" "[I" .null := D221 (Or.inl (wi hw 16 rfl)) (ty := (.array .int)) (by decide)
      have F226 : Fld Z h221 b221 "com/example/edgewise/edgewise/EdgeSlots" "targetPositions" "[I" .null := D221 (Or.inl (wi hw 18 rfl)) (ty := (.array .int)) (by decide)
      have F227 : Fld Z h221 b221 "com/example/edgewise/edgewise/EdgeSlots" "weights" "[D" .null := D221 (Or.inl (wi hw 21 rfl)) (ty := (.array .double)) (by decide)
      have F228 : Fld Z h221 b221 "com/example/edgewise/edgewise/EdgeSlots" "keys" "[I" .null := D221 (Or.inl (wi hw 23 rfl)) (ty := (.array .int)) (by decide)
      have F229 : Fld Z h221 b221 "com/example/edgewise/edgewise/EdgeSlots" "keptNumbers" "[J" .null := D221 (Or.inl (wi hw 26 rfl)) (ty := (.array .long)) (by decide)
      have F230 : Fld Z h221 b221 "com/example/edgewise/edgewise/EdgeSlots" "keyed" "Z" (.int (0 : Int32)) := D221 (Or.inr (wi hw 28 rfl)) (ty := .boolean) (by decide)
      have F231 : Fld Z h221 b221 "com/example/edgewise/edgewise/EdgeSlots" "bound" "I" (.int (0 : Int32)) := D221 (Or.inl (wi hw 39 rfl)) (ty := .int) (by decide)
      have F232 : Fld Z h221 b221 "com/example/edgewise/edgewise/EdgeSlots" "count" "I" (.int (0 : Int32)) := D221 (Or.inl (wi hw 79 rfl)) (ty := .int) (by decide)
      have F233 : Fld Z h221 b221 "com/example/edgewise/edgewise/EdgeSlots" "nextNumber" "J" (.long (0 : Int64)) := D221 (Or.inl (wi hw 81 rfl)) (ty := .long) (by decide)
      refine g_dup X221 hx hby at_55 (pc' := 56) rfl rfl ?_
      refine g_iload X221 hx hby at_56 (pc' := 58) rfl rfl ?_
      refine Go.callI X221 hx hZ (y := (⟨"com/example/edgewise/edgewise/EdgeSlots", "<init>", "(Z)V"⟩ : MethodName)) hown rfl (wi hw 4 rfl) (wi hw 5 rfl) (wi hw 3 rfl) (wi hw 6 rfl) (by decide) e221 (a := b221) (argsL := [(.int (1 : Int32))]) (rest := [(.ref b221)]) (W := 1) (rm_init1 l Z a0 hw b221 h221 n0 (Nat.le_trans Z0 E221.1) A221 F223 F224 F225 F226 F227 F228 F229 F230 F231 F232 F233 g222) (hb hby at_58) (by rw [hml]; rfl) rfl pd_aZzV rfl rfl (by decide) (by decide) (by decide) (by decide) ?_
      intro v234 T234 L234 X234 hQ234
      obtain ⟨h234, e234⟩ : ∃ z, T234.heap = z := ⟨_, rfl⟩
      rw [e234] at hQ234
      obtain ⟨b1_234, b2_234, b3_234, b4_234, b5_234, b6_234, b7_234, rfl, Nq234, Kq234, gqb1_234, sqb1_234, gqb2_234, sqb2_234, gqb3_234, sqb3_234, gqb4_234, sqb4_234, gqb5_234, sqb5_234, gqb6_234, sqb6_234, gqb7_234, sqb7_234, nqb1_b2_234, nqb1_b3_234, nqb1_b4_234, nqb1_b5_234, nqb1_b6_234, nqb1_b7_234, nqb2_b3_234, nqb2_b4_234, nqb2_b5_234, nqb2_b6_234, nqb2_b7_234, nqb3_b4_234, nqb3_b5_234, nqb3_b6_234, nqb3_b7_234, nqb4_b5_234, nqb4_b6_234, nqb4_b7_234, nqb5_b6_234, nqb5_b7_234, nqb6_b7_234, Fq0_234, Fq1_234, Fq2_234, Fq3_234, Fq4_234, Fq5_234, Fq6_234, Fq7_234, Fq8_234, Fq9_234, Fq10_234, Fq11_234, Fq12_234, Fq13_234, Fq14_234, Fq15_234, Fq16_234, Fq17_234⟩ := hQ234
      have N234 := Fr.app N0 Nq234
      show Go p.tables e below s _ _ _ (T234.setTop (mkF m 61 #[.val (.int p1), .val (.int p2), .val (.int p3), .val (.int p4), .val (.int p5), .val (.int p6), .val (.int (3 : Int32)), .val (.int v176), .val (.int v177), .val (.int v178), .val (.int v179), .val (.int (1 : Int32)), .unset, .unset] [(.ref b221)]))
      refine g_astore X234 hx hby at_61 (pc' := 63) rfl rfl (L' := #[.val (.int p1), .val (.int p2), .val (.int p3), .val (.int p4), .val (.int p5), .val (.int p6), .val (.int (3 : Int32)), .val (.int v176), .val (.int v177), .val (.int v178), .val (.int v179), .val (.int (1 : Int32)), .val (.ref b221), .unset]) rfl ?_
      refine g_iload X234 hx hby at_63 (pc' := 65) rfl rfl ?_
      have hc65 : (0 : Int) < (3 : Int) := by decide
      refine g_ifNo X234 hx hby at_65 (pc' := 68) (tlt (show (0 : Int32) < (3 : Int32) from Int32.lt_iff_toInt_lt.mpr hc65)).2.2.2 rfl ?_
      refine g_aload X234 hx hby at_68 (pc' := 70) rfl rfl rfl ?_
      refine g_iload X234 hx hby at_70 (pc' := 72) rfl rfl ?_
      refine g_iload X234 hx hby at_72 (pc' := 74) rfl rfl ?_
      refine Go.of (fun _ k => XS.dconst1 X234.here hx rfl (hb hby at_74) (v := FP.dconst1) rfl k) ?_
      show Go p.tables e below s _ _ _ (T234.setTop (mkF m 75 #[.val (.int p1), .val (.int p2), .val (.int p3), .val (.int p4), .val (.int p5), .val (.int p6), .val (.int (3 : Int32)), .val (.int v176), .val (.int v177), .val (.int v178), .val (.int v179), .val (.int (1 : Int32)), .val (.ref b221), .unset] [(.double FP.dconst1), (.int v179), (.int v178), (.ref b221)]))
      refine g_iload X234 hx hby at_75 (pc' := 77) rfl rfl ?_
      have f236 := A221.keep Kq234
      have ne237 : b221 ≠ b1_234 := Nat.ne_of_lt (Nat.lt_of_lt_of_le F233.lt sqb1_234)
      have ne238 : b221 ≠ b2_234 := Nat.ne_of_lt (Nat.lt_of_lt_of_le F233.lt sqb2_234)
      have ne239 : b221 ≠ b3_234 := Nat.ne_of_lt (Nat.lt_of_lt_of_le F233.lt sqb3_234)
      have ne240 : b221 ≠ b4_234 := Nat.ne_of_lt (Nat.lt_of_lt_of_le F233.lt sqb4_234)
      have ne241 : b221 ≠ b5_234 := Nat.ne_of_lt (Nat.lt_of_lt_of_le F233.lt sqb5_234)
      have ne242 : b221 ≠ b6_234 := Nat.ne_of_lt (Nat.lt_of_lt_of_le F233.lt sqb6_234)
      refine Go.callV X234 hx hZ (y := (⟨"com/example/edgewise/edgewise/EdgeSlots", "add", "(IIDI)I"⟩ : MethodName)) (z := (⟨"com/example/edgewise/edgewise/EdgeSlots", "add", "(IIDI)I"⟩ : MethodName)) hown (wi hw 40 rfl) (wi hw 41 rfl) (notFace_of_selects (args := #[]) (mvT hZ (wi hw 43 rfl))) (wi hw 43 rfl) (wi hw 42 rfl) (wi hw 3 rfl) (wi hw 44 rfl) (by decide) e234 (a := b221) (argsL := [(.int v178), (.int v179), (.double FP.dconst1), (.int v178)]) (rest := []) (W := 0) f236 (rm_addA1 l Z a0 hw b221 v178 v179 FP.dconst1 v178 b1_234 b2_234 b3_234 b4_234 b5_234 b6_234 b7_234 (fun _ => (0 : Int32)) (fun _ => (0 : Int32)) (fun _ => (0 : Int32)) (fun _ => (0 : Int32)) (fun _ => (0 : UInt64)) (fun _ => (0 : Int32)) (0 : Int32) (0 : Int64) h234 n0 (Nat.le_trans (Nat.le_trans Z0 E221.1) Kq234.1) f236 Fq7_234 Fq6_234 Fq0_234 Fq1_234 Fq2_234 Fq3_234 Fq4_234 Fq5_234 Fq11_234 Fq12_234 Fq13_234 Fq14_234 Fq15_234 Fq16_234 Fq8_234 Fq9_234 Fq10_234 (Ne.symm ne237) (Ne.symm ne238) (Ne.symm ne239) (Ne.symm ne240) (Ne.symm ne241) (Ne.symm ne242) g222) (hb hby at_77) (by rw [hml]; rfl) rfl pd_aIIDIzI rfl rfl (by decide) (by decide) (by decide) (by decide) ?_
      intro v235 T235 L235 X235 hQ235
      obtain ⟨h235, e235⟩ : ∃ z, T235.heap = z := ⟨_, rfl⟩
      rw [e235] at hQ235
      obtain ⟨b1_235, b2_235, b3_235, b4_235, b5_235, b6_235, rfl, Nq235, Kq235, gqb1_235, sqb1_235, gqb2_235, sqb2_235, gqb3_235, sqb3_235, gqb4_235, sqb4_235, gqb5_235, sqb5_235, gqb6_235, sqb6_235, nqb1_b2_235, nqb1_b3_235, nqb1_b4_235, nqb1_b5_235, nqb1_b6_235, nqb2_b3_235, nqb2_b4_235, nqb2_b5_235, nqb2_b6_235, nqb3_b4_235, nqb3_b5_235, nqb3_b6_235, nqb4_b5_235, nqb4_b6_235, nqb5_b6_235, Fq0_235, Fq1_235, Fq2_235, Fq3_235, Fq4_235, Fq5_235, Fq6_235, Fq7_235, Fq8_235, Fq9_235, Fq10_235, Fq11_235, Fq12_235, Fq13_235, Fq14_235, Fq15_235, Fq16_235⟩ := hQ235
      have N235 := Fr.app N234 Nq235
      have Fq9_235 : Fld Z h235 b221 "com/example/edgewise/edgewise/EdgeSlots" "count" "I" (.int (1 : Int32)) := Fq9_235
      have Fq10_235 : Fld Z h235 b221 "com/example/edgewise/edgewise/EdgeSlots" "nextNumber" "J" (.long (1 : Int64)) := Fq10_235
      show Go p.tables e below s _ _ _ (T235.setTop (mkF m 80 #[.val (.int p1), .val (.int p2), .val (.int p3), .val (.int p4), .val (.int p5), .val (.int p6), .val (.int (3 : Int32)), .val (.int v176), .val (.int v177), .val (.int v178), .val (.int v179), .val (.int (1 : Int32)), .val (.ref b221), .unset] [(.int (0 : Int32))]))
      refine g_pop X235 hx hby at_80 (pc' := 81) rfl rfl ?_
      refine g_iload X235 hx hby at_81 (pc' := 83) rfl rfl ?_
      refine g_iconst X235 hx hby at_83 (pc' := 84) rfl (z := (1 : Int32)) rfl ?_
      have hc84 : (1 : Int) < (3 : Int) := by decide
      refine g_icmpNo X235 hx hby at_84 (pc' := 87) (tlt (show (1 : Int32) < (3 : Int32) from Int32.lt_iff_toInt_lt.mpr hc84)).2.2.2 rfl ?_
      refine g_aload X235 hx hby at_87 (pc' := 89) rfl rfl rfl ?_
      refine g_iload X235 hx hby at_89 (pc' := 91) rfl rfl ?_
      refine g_iload X235 hx hby at_91 (pc' := 93) rfl rfl ?_
      refine g_ldcD X235 hx hby hZ hown (wi hw 82 rfl) at_93 (pc' := 96) rfl ?_
      refine g_iload X235 hx hby at_96 (pc' := 98) rfl rfl ?_
      have f244 := f236.keep Kq235
      have ne245 : b221 ≠ b1_235 := Nat.ne_of_lt (Nat.lt_of_lt_of_le f236.lt sqb1_235)
      have ne246 : b221 ≠ b2_235 := Nat.ne_of_lt (Nat.lt_of_lt_of_le f236.lt sqb2_235)
      have ne247 : b221 ≠ b5_235 := Nat.ne_of_lt (Nat.lt_of_lt_of_le f236.lt sqb5_235)
      have ne248 : b221 ≠ b6_235 := Nat.ne_of_lt (Nat.lt_of_lt_of_le f236.lt sqb6_235)
      refine Go.callV X235 hx hZ (y := (⟨"com/example/edgewise/edgewise/EdgeSlots", "add", "(IIDI)I"⟩ : MethodName)) (z := (⟨"com/example/edgewise/edgewise/EdgeSlots", "add", "(IIDI)I"⟩ : MethodName)) hown (wi hw 40 rfl) (wi hw 41 rfl) (notFace_of_selects (args := #[]) (mvT hZ (wi hw 43 rfl))) (wi hw 43 rfl) (wi hw 42 rfl) (wi hw 3 rfl) (wi hw 44 rfl) (by decide) e235 (a := b221) (argsL := [(.int v179), (.int v178), (.double (4611686018427387904 : UInt64)), (.int v179)]) (rest := []) (W := 0) f244 (rm_addB1 l Z a0 hw b221 v179 v178 (4611686018427387904 : UInt64) v179 b1_235 b2_235 b3_235 b4_235 b5_235 b6_235 b7_234 (upI (fun _ => (0 : Int32)) 0 v178) (upI (fun _ => (0 : Int32)) 0 v179) (upD (fun _ => (0 : UInt64)) 0 FP.dconst1) (upI (fun _ => (0 : Int32)) 0 v178) (1 : Int32) (1 : Int32) (1 : Int64) 1 h235 n0 (Nat.le_trans (Nat.le_trans (Nat.le_trans Z0 E221.1) Kq234.1) Kq235.1) f244 Fq0_235 Fq1_235 Fq2_235 Fq3_235 Fq4_235 Fq5_235 Fq6_235 Fq7_235 Fq11_235 Fq12_235 Fq15_235 Fq16_235 Fq8_235 Fq9_235 Fq10_235 (Ne.symm ne245) (Ne.symm ne246) (Ne.symm ne247) (Ne.symm ne248) nqb1_b2_235 nqb1_b5_235 nqb1_b6_235 nqb2_b5_235 nqb2_b6_235 nqb5_b6_235 g222 gqb1_235 gqb2_235 gqb5_235 gqb6_235 rfl (by decide)) (hb hby at_98) (by rw [hml]; rfl) rfl pd_aIIDIzI rfl rfl (by decide) (by decide) (by decide) (by decide) ?_
      intro v243 T243 L243 X243 hQ243
      obtain ⟨h243, e243⟩ : ∃ z, T243.heap = z := ⟨_, rfl⟩
      rw [e243] at hQ243
      obtain ⟨rfl, Nq243, Kq243, Fq0_243, Fq1_243, Fq2_243, Fq3_243, Fq4_243, Fq5_243, Fq6_243, Fq7_243, Fq8_243, Fq9_243, Fq10_243, Fq11_243, Fq12_243, Fq13_243, Fq14_243⟩ := hQ243
      have N243 := Fr.app N235 Nq243
      have Fq8_243 : Fld Z h243 b221 "com/example/edgewise/edgewise/EdgeSlots" "bound" "I" (.int (2 : Int32)) := Fq8_243
      have Fq9_243 : Fld Z h243 b221 "com/example/edgewise/edgewise/EdgeSlots" "count" "I" (.int (2 : Int32)) := Fq9_243
      have Fq10_243 : Fld Z h243 b221 "com/example/edgewise/edgewise/EdgeSlots" "nextNumber" "J" (.long (2 : Int64)) := Fq10_243
      show Go p.tables e below s _ _ _ (T243.setTop (mkF m 101 #[.val (.int p1), .val (.int p2), .val (.int p3), .val (.int p4), .val (.int p5), .val (.int p6), .val (.int (3 : Int32)), .val (.int v176), .val (.int v177), .val (.int v178), .val (.int v179), .val (.int (1 : Int32)), .val (.ref b221), .unset] [(.int (1 : Int32))]))
      refine g_pop X243 hx hby at_101 (pc' := 102) rfl rfl ?_
      refine g_iload X243 hx hby at_102 (pc' := 104) rfl rfl ?_
      refine g_iconst X243 hx hby at_104 (pc' := 105) rfl (z := (2 : Int32)) rfl ?_
      have hc105 : (2 : Int) < (3 : Int) := by decide
      refine g_icmpNo X243 hx hby at_105 (pc' := 108) (tlt (show (2 : Int32) < (3 : Int32) from Int32.lt_iff_toInt_lt.mpr hc105)).2.2.2 rfl ?_
      refine g_aload X243 hx hby at_108 (pc' := 110) rfl rfl rfl ?_
      refine g_iload X243 hx hby at_110 (pc' := 112) rfl rfl ?_
      refine g_iload X243 hx hby at_112 (pc' := 114) rfl rfl ?_
      refine g_ldcD X243 hx hby hZ hown (wi hw 83 rfl) at_114 (pc' := 117) rfl ?_
      refine g_iconst X243 hx hby at_117 (pc' := 118) rfl (z := (0 : Int32)) rfl ?_
      have f250 := f244.keep Kq243
      refine Go.callV X243 hx hZ (y := (⟨"com/example/edgewise/edgewise/EdgeSlots", "add", "(IIDI)I"⟩ : MethodName)) (z := (⟨"com/example/edgewise/edgewise/EdgeSlots", "add", "(IIDI)I"⟩ : MethodName)) hown (wi hw 40 rfl) (wi hw 41 rfl) (notFace_of_selects (args := #[]) (mvT hZ (wi hw 43 rfl))) (wi hw 43 rfl) (wi hw 42 rfl) (wi hw 3 rfl) (wi hw 44 rfl) (by decide) e243 (a := b221) (argsL := [(.int v178), (.int v178), (.double (4613937818241073152 : UInt64)), (.int (0 : Int32))]) (rest := []) (W := 0) f250 (rm_addB1 l Z a0 hw b221 v178 v178 (4613937818241073152 : UInt64) (0 : Int32) b1_235 b2_235 b3_235 b4_235 b5_235 b6_235 b7_234 (upI (upI (fun _ => (0 : Int32)) 0 v178) 1 v179) (upI (upI (fun _ => (0 : Int32)) 0 v179) 1 v178) (upD (upD (fun _ => (0 : UInt64)) 0 FP.dconst1) 1 (4611686018427387904 : UInt64)) (upI (upI (fun _ => (0 : Int32)) 0 v178) 1 v179) (2 : Int32) (2 : Int32) (2 : Int64) 2 h243 n0 (Nat.le_trans (Nat.le_trans (Nat.le_trans (Nat.le_trans Z0 E221.1) Kq234.1) Kq235.1) Kq243.1) f250 Fq0_243 Fq1_243 Fq2_243 Fq3_243 Fq4_243 Fq5_243 Fq6_243 Fq7_243 Fq11_243 Fq12_243 Fq13_243 Fq14_243 Fq8_243 Fq9_243 Fq10_243 (Ne.symm ne245) (Ne.symm ne246) (Ne.symm ne247) (Ne.symm ne248) nqb1_b2_235 nqb1_b5_235 nqb1_b6_235 nqb2_b5_235 nqb2_b6_235 nqb5_b6_235 g222 gqb1_235 gqb2_235 gqb5_235 gqb6_235 rfl (by decide)) (hb hby at_118) (by rw [hml]; rfl) rfl pd_aIIDIzI rfl rfl (by decide) (by decide) (by decide) (by decide) ?_
      intro v249 T249 L249 X249 hQ249
      obtain ⟨h249, e249⟩ : ∃ z, T249.heap = z := ⟨_, rfl⟩
      rw [e249] at hQ249
      obtain ⟨rfl, Nq249, Kq249, Fq0_249, Fq1_249, Fq2_249, Fq3_249, Fq4_249, Fq5_249, Fq6_249, Fq7_249, Fq8_249, Fq9_249, Fq10_249, Fq11_249, Fq12_249, Fq13_249, Fq14_249⟩ := hQ249
      have N249 := Fr.app N243 Nq249
      have Fq8_249 : Fld Z h249 b221 "com/example/edgewise/edgewise/EdgeSlots" "bound" "I" (.int (3 : Int32)) := Fq8_249
      have Fq9_249 : Fld Z h249 b221 "com/example/edgewise/edgewise/EdgeSlots" "count" "I" (.int (3 : Int32)) := Fq9_249
      have Fq10_249 : Fld Z h249 b221 "com/example/edgewise/edgewise/EdgeSlots" "nextNumber" "J" (.long (3 : Int64)) := Fq10_249
      show Go p.tables e below s _ _ _ (T249.setTop (mkF m 121 #[.val (.int p1), .val (.int p2), .val (.int p3), .val (.int p4), .val (.int p5), .val (.int p6), .val (.int (3 : Int32)), .val (.int v176), .val (.int v177), .val (.int v178), .val (.int v179), .val (.int (1 : Int32)), .val (.ref b221), .unset] [(.int (2 : Int32))]))
      refine g_pop X249 hx hby at_121 (pc' := 122) rfl rfl ?_
      refine g_iload X249 hx hby at_122 (pc' := 124) rfl rfl ?_
      refine g_iconst X249 hx hby at_124 (pc' := 125) rfl (z := (3 : Int32)) rfl ?_
      have hc125 : ¬ ((3 : Int) < (3 : Int)) := by decide
      refine g_icmpYes X249 hx hby at_125 (pc' := 142) (flt (show ¬ ((3 : Int32) < (3 : Int32)) from fun q => hc125 (Int32.lt_iff_toInt_lt.mp q))).2.2.2 (by decide) (by decide) ?_
      have f251 := f250.keep Kq249
      exact J142 (T249, _, h249, (1 : Int32), b221, b1_235, b2_235) ⟨X249.more (by decide) (by decide), e249, N249, (Nat.le_trans (Nat.le_trans (Nat.le_trans (Nat.le_trans (Nat.le_trans Z0 E221.1) Kq234.1) Kq235.1) Kq243.1) Kq249.1), f251, Fq2_249, Fq3_249, Fq8_249, Fq9_249, Fq11_249, Fq12_249, (show b1_235 ≠ b221 ∧ b2_235 ≠ b221 ∧ b1_235 ≠ b2_235 ∧ n0 ≤ b221 ∧ n0 ≤ b1_235 ∧ n0 ≤ b2_235 from ⟨(Ne.symm ne245), (Ne.symm ne246), nqb1_b2_235, g222, gqb1_235, gqb2_235⟩)⟩
  · show Go p.tables e below s _ _ _ (T0.setTop (mkF m 8 #[.val (.int p1), .val (.int p2), .val (.int p3), .val (.int p4), .val (.int p5), .val (.int p6), .val (.int (4 : Int32)), .unset, .unset, .unset, .unset, .unset, .unset, .unset] []))
    refine g_iloadN X0 hx hby at_8 (pc' := 9) rfl rfl ?_
    refine g_bipush X0 hx hby at_9 (pc' := 11) rfl (z := (15 : Int32)) rfl ?_
    refine g_iand X0 hx hby at_11 (pc' := 12) rfl rfl ?_
    show Go p.tables e below s _ _ _ (T0.setTop (mkF m 12 #[.val (.int p1), .val (.int p2), .val (.int p3), .val (.int p4), .val (.int p5), .val (.int p6), .val (.int (4 : Int32)), .unset, .unset, .unset, .unset, .unset, .unset, .unset] [(.int (p2 &&& (15 : Int32)))]))
    generalize hv252 : (p2 &&& (15 : Int32)) = v252
    refine g_istore X0 hx hby at_12 (pc' := 14) rfl (L' := #[.val (.int p1), .val (.int p2), .val (.int p3), .val (.int p4), .val (.int p5), .val (.int p6), .val (.int (4 : Int32)), .val (.int v252), .unset, .unset, .unset, .unset, .unset, .unset]) rfl ?_
    refine g_iloadN X0 hx hby at_14 (pc' := 15) rfl rfl ?_
    refine g_ldcI X0 hx hby hZ hown (wi hw 0 rfl) at_15 (pc' := 17) rfl ?_
    refine g_iand X0 hx hby at_17 (pc' := 18) rfl rfl ?_
    refine g_iload X0 hx hby at_18 (pc' := 20) rfl rfl ?_
    refine g_iconst X0 hx hby at_20 (pc' := 21) rfl (z := (1 : Int32)) rfl ?_
    refine g_iadd X0 hx hby at_21 (pc' := 22) rfl (z := (5 : Int32)) rfl ?_
    refine g_irem X0 hx hby at_22 (pc' := 23) rfl (by decide) rfl ?_
    show Go p.tables e below s _ _ _ (T0.setTop (mkF m 23 #[.val (.int p1), .val (.int p2), .val (.int p3), .val (.int p4), .val (.int p5), .val (.int p6), .val (.int (4 : Int32)), .val (.int v252), .unset, .unset, .unset, .unset, .unset, .unset] [(.int ((p3 &&& (2147483647 : Int32)) % (5 : Int32)))]))
    generalize hv253 : ((p3 &&& (2147483647 : Int32)) % (5 : Int32)) = v253
    refine g_istore X0 hx hby at_23 (pc' := 25) rfl (L' := #[.val (.int p1), .val (.int p2), .val (.int p3), .val (.int p4), .val (.int p5), .val (.int p6), .val (.int (4 : Int32)), .val (.int v252), .val (.int v253), .unset, .unset, .unset, .unset, .unset]) rfl ?_
    refine g_iloadN X0 hx hby at_25 (pc' := 26) rfl rfl ?_
    refine g_ldcI X0 hx hby hZ hown (wi hw 0 rfl) at_26 (pc' := 28) rfl ?_
    refine g_iand X0 hx hby at_28 (pc' := 29) rfl rfl ?_
    show Go p.tables e below s _ _ _ (T0.setTop (mkF m 29 #[.val (.int p1), .val (.int p2), .val (.int p3), .val (.int p4), .val (.int p5), .val (.int p6), .val (.int (4 : Int32)), .val (.int v252), .val (.int v253), .unset, .unset, .unset, .unset, .unset] [(.int (p4 &&& (2147483647 : Int32)))]))
    generalize hv254 : (p4 &&& (2147483647 : Int32)) = v254
    refine g_istore X0 hx hby at_29 (pc' := 31) rfl (L' := #[.val (.int p1), .val (.int p2), .val (.int p3), .val (.int p4), .val (.int p5), .val (.int p6), .val (.int (4 : Int32)), .val (.int v252), .val (.int v253), .val (.int v254), .unset, .unset, .unset, .unset]) rfl ?_
    refine g_iload X0 hx hby at_31 (pc' := 33) rfl rfl ?_
    refine g_ldcI X0 hx hby hZ hown (wi hw 0 rfl) at_33 (pc' := 35) rfl ?_
    refine g_iand X0 hx hby at_35 (pc' := 36) rfl rfl ?_
    show Go p.tables e below s _ _ _ (T0.setTop (mkF m 36 #[.val (.int p1), .val (.int p2), .val (.int p3), .val (.int p4), .val (.int p5), .val (.int p6), .val (.int (4 : Int32)), .val (.int v252), .val (.int v253), .val (.int v254), .unset, .unset, .unset, .unset] [(.int (p5 &&& (2147483647 : Int32)))]))
    generalize hv255 : (p5 &&& (2147483647 : Int32)) = v255
    refine g_istore X0 hx hby at_36 (pc' := 38) rfl (L' := #[.val (.int p1), .val (.int p2), .val (.int p3), .val (.int p4), .val (.int p5), .val (.int p6), .val (.int (4 : Int32)), .val (.int v252), .val (.int v253), .val (.int v254), .val (.int v255), .unset, .unset, .unset]) rfl ?_
    have hm : 0 ≤ v252.toInt ∧ v252.toInt ≤ 15 := by rw [← hv252]; have : (p2 &&& (15 : Int32)).toInt = p2.toInt % 16 := c_mask _ _ 4 (by decide) (by decide); have : -2147483648 ≤ (p2 &&& (15 : Int32)).toInt ∧ (p2 &&& (15 : Int32)).toInt < 2147483648 := rng32 _; have : -2147483648 ≤ p2.toInt ∧ p2.toInt < 2147483648 := rng32 _; omega
    obtain ⟨ks, hkle, hks⟩ : ∃ ks : Nat, ks ≤ 4 ∧ v253.toInt = (ks : Int) := ⟨v253.toInt.toNat, by rw [← hv253]; have : (0 ≤ (p3 &&& (2147483647 : Int32)).toInt → ((p3 &&& (2147483647 : Int32)) % (5 : Int32)).toInt = (p3 &&& (2147483647 : Int32)).toInt % 5) ∧ ((p3 &&& (2147483647 : Int32)).toInt < 0 → ((p3 &&& (2147483647 : Int32)) % (5 : Int32)).toInt = -((-(p3 &&& (2147483647 : Int32)).toInt) % 5)) := c_irem _ _ 5 rfl; have : -2147483648 ≤ ((p3 &&& (2147483647 : Int32)) % (5 : Int32)).toInt ∧ ((p3 &&& (2147483647 : Int32)) % (5 : Int32)).toInt < 2147483648 := rng32 _; have : (p3 &&& (2147483647 : Int32)).toInt = p3.toInt % 2147483648 := c_mask _ _ 31 (by decide) (by decide); have : -2147483648 ≤ (p3 &&& (2147483647 : Int32)).toInt ∧ (p3 &&& (2147483647 : Int32)).toInt < 2147483648 := rng32 _; have : -2147483648 ≤ p3.toInt ∧ p3.toInt < 2147483648 := rng32 _; omega, by rw [← hv253]; have : (0 ≤ (p3 &&& (2147483647 : Int32)).toInt → ((p3 &&& (2147483647 : Int32)) % (5 : Int32)).toInt = (p3 &&& (2147483647 : Int32)).toInt % 5) ∧ ((p3 &&& (2147483647 : Int32)).toInt < 0 → ((p3 &&& (2147483647 : Int32)) % (5 : Int32)).toInt = -((-(p3 &&& (2147483647 : Int32)).toInt) % 5)) := c_irem _ _ 5 rfl; have : -2147483648 ≤ ((p3 &&& (2147483647 : Int32)) % (5 : Int32)).toInt ∧ ((p3 &&& (2147483647 : Int32)) % (5 : Int32)).toInt < 2147483648 := rng32 _; have : (p3 &&& (2147483647 : Int32)).toInt = p3.toInt % 2147483648 := c_mask _ _ 31 (by decide) (by decide); have : -2147483648 ≤ (p3 &&& (2147483647 : Int32)).toInt ∧ (p3 &&& (2147483647 : Int32)).toInt < 2147483648 := rng32 _; have : -2147483648 ≤ p3.toInt ∧ p3.toInt < 2147483648 := rng32 _; omega⟩
    have hva : 0 ≤ v254.toInt := by rw [← hv254]; have : (p4 &&& (2147483647 : Int32)).toInt = p4.toInt % 2147483648 := c_mask _ _ 31 (by decide) (by decide); have : -2147483648 ≤ (p4 &&& (2147483647 : Int32)).toInt ∧ (p4 &&& (2147483647 : Int32)).toInt < 2147483648 := rng32 _; have : -2147483648 ≤ p4.toInt ∧ p4.toInt < 2147483648 := rng32 _; omega
    have hvb : 0 ≤ v255.toInt := by rw [← hv255]; have : (p5 &&& (2147483647 : Int32)).toInt = p5.toInt % 2147483648 := c_mask _ _ 31 (by decide) (by decide); have : -2147483648 ≤ (p5 &&& (2147483647 : Int32)).toInt ∧ (p5 &&& (2147483647 : Int32)).toInt < 2147483648 := rng32 _; have : -2147483648 ≤ p5.toInt ∧ p5.toInt < 2147483648 := rng32 _; omega
    refine Go.join (α := State × (List Loc) × Heap × Int32 × Addr × Addr × Addr) (P := fun x => (fun (Tj142 : State) (Lj142 : List Loc) (hj142 : Heap) (fl : Int32) (oa : Addr) (xa : Addr) (xb : Addr) => Stand p l e room_1 s m #[(.int p1), (.int p2), (.int p3), (.int p4), (.int p5), (.int p6)] below meth c Tj142 Lj142 14 35 ∧ Tj142.heap = hj142 ∧ Fr n0 Lj142 ∧ n0 ≤ hj142.size ∧ Exa Z hj142 oa "com/example/edgewise/edgewise/EdgeSlots" ∧ Fld Z hj142 oa "com/example/edgewise/edgewise/EdgeSlots" "sources" "[I" (.ref xa) ∧ Fld Z hj142 oa "com/example/edgewise/edgewise/EdgeSlots" "targets" "[I" (.ref xb) ∧ Fld Z hj142 oa "com/example/edgewise/edgewise/EdgeSlots" "bound" "I" (.int (4 : Int32)) ∧ Fld Z hj142 oa "com/example/edgewise/edgewise/EdgeSlots" "count" "I" (.int (4 : Int32)) ∧ ArF Z hj142 xa .int 4 (fun i => .int ((upI (upI (upI (upI (fun _ => (0 : Int32)) 0 v254) 1 v255) 2 v254) 3 v255) i)) ∧ ArF Z hj142 xb .int 4 (fun i => .int ((upI (upI (upI (upI (fun _ => (0 : Int32)) 0 v255) 1 v254) 2 v254) 3 v255) i)) ∧ (xa ≠ oa ∧ xb ≠ oa ∧ xa ≠ xb ∧ n0 ≤ oa ∧ n0 ≤ xa ∧ n0 ≤ xb)) x.1 x.2.1 x.2.2.1 x.2.2.2.1 x.2.2.2.2.1 x.2.2.2.2.2.1 x.2.2.2.2.2.2) (F := fun x => (fun (Tj142 : State) (Lj142 : List Loc) (hj142 : Heap) (fl : Int32) (oa : Addr) (xa : Addr) (xb : Addr) => Tj142.setTop (mkF m 142 #[.val (.int p1), .val (.int p2), .val (.int p3), .val (.int p4), .val (.int p5), .val (.int p6), .val (.int (4 : Int32)), .val (.int v252), .val (.int v253), .val (.int v254), .val (.int v255), .val (.int fl), .val (.ref oa), .unset] [])) x.1 x.2.1 x.2.2.1 x.2.2.2.1 x.2.2.2.2.1 x.2.2.2.2.2.1 x.2.2.2.2.2.2) ?_ ?_
    · rintro ⟨Tj142, Lj142, hj142, fl, oa, xa, xb⟩ hP142
      obtain ⟨Xj142, ej142, Nj142, zj142, fj142_0, fj142_1, fj142_2, fj142_3, fj142_4, fj142_5, fj142_6, hJ142⟩ : Stand p l e room_1 s m #[(.int p1), (.int p2), (.int p3), (.int p4), (.int p5), (.int p6)] below meth c Tj142 Lj142 14 35 ∧ Tj142.heap = hj142 ∧ Fr n0 Lj142 ∧ n0 ≤ hj142.size ∧ Exa Z hj142 oa "com/example/edgewise/edgewise/EdgeSlots" ∧ Fld Z hj142 oa "com/example/edgewise/edgewise/EdgeSlots" "sources" "[I" (.ref xa) ∧ Fld Z hj142 oa "com/example/edgewise/edgewise/EdgeSlots" "targets" "[I" (.ref xb) ∧ Fld Z hj142 oa "com/example/edgewise/edgewise/EdgeSlots" "bound" "I" (.int (4 : Int32)) ∧ Fld Z hj142 oa "com/example/edgewise/edgewise/EdgeSlots" "count" "I" (.int (4 : Int32)) ∧ ArF Z hj142 xa .int 4 (fun i => .int ((upI (upI (upI (upI (fun _ => (0 : Int32)) 0 v254) 1 v255) 2 v254) 3 v255) i)) ∧ ArF Z hj142 xb .int 4 (fun i => .int ((upI (upI (upI (upI (fun _ => (0 : Int32)) 0 v255) 1 v254) 2 v254) 3 v255) i)) ∧ (xa ≠ oa ∧ xb ≠ oa ∧ xa ≠ xb ∧ n0 ≤ oa ∧ n0 ≤ xa ∧ n0 ≤ xb) := hP142
      show Go p.tables e below s _ _ _ (Tj142.setTop (mkF m 142 #[.val (.int p1), .val (.int p2), .val (.int p3), .val (.int p4), .val (.int p5), .val (.int p6), .val (.int (4 : Int32)), .val (.int v252), .val (.int v253), .val (.int v254), .val (.int v255), .val (.int fl), .val (.ref oa), .unset] []))
      obtain ⟨ne1, ne2, ne3, ge1, ge2, ge3⟩ := hJ142
      refine g_iload Xj142 hx hby at_142 (pc' := 144) rfl rfl ?_
      have hc144 : (0 : Int) < (4 : Int) := by decide
      refine g_ifNo Xj142 hx hby at_144 (pc' := 147) (tlt (show (0 : Int32) < (4 : Int32) from Int32.lt_iff_toInt_lt.mpr hc144)).2.2.2 rfl ?_
      refine Go.join (α := State × (List Loc) × Heap × (Nat → Int32) × (Nat → Int32) × Int32) (P := fun x => (fun (Tj160 : State) (Lj160 : List Loc) (hj160 : Heap) (ga0 : Nat → Int32) (gb0 : Nat → Int32) (ca0 : Int32) => Stand p l e room_1 s m #[(.int p1), (.int p2), (.int p3), (.int p4), (.int p5), (.int p6)] below meth c Tj160 Lj160 14 35 ∧ Tj160.heap = hj160 ∧ Fr n0 Lj160 ∧ n0 ≤ hj160.size ∧ Exa Z hj160 oa "com/example/edgewise/edgewise/EdgeSlots" ∧ Fld Z hj160 oa "com/example/edgewise/edgewise/EdgeSlots" "sources" "[I" (.ref xa) ∧ Fld Z hj160 oa "com/example/edgewise/edgewise/EdgeSlots" "targets" "[I" (.ref xb) ∧ Fld Z hj160 oa "com/example/edgewise/edgewise/EdgeSlots" "bound" "I" (.int (4 : Int32)) ∧ Fld Z hj160 oa "com/example/edgewise/edgewise/EdgeSlots" "count" "I" (.int ca0) ∧ ArF Z hj160 xa .int 4 (fun i => .int (ga0 i)) ∧ ArF Z hj160 xb .int 4 (fun i => .int (gb0 i)) ∧ (ga0 = own_rm (upI (upI (upI (upI (fun _ => (0 : Int32)) 0 v254) 1 v255) 2 v254) 3 v255) v252 (1 : Int32) 0)) x.1 x.2.1 x.2.2.1 x.2.2.2.1 x.2.2.2.2.1 x.2.2.2.2.2) (F := fun x => (fun (Tj160 : State) (Lj160 : List Loc) (hj160 : Heap) (ga0 : Nat → Int32) (gb0 : Nat → Int32) (ca0 : Int32) => Tj160.setTop (mkF m 160 #[.val (.int p1), .val (.int p2), .val (.int p3), .val (.int p4), .val (.int p5), .val (.int p6), .val (.int (4 : Int32)), .val (.int v252), .val (.int v253), .val (.int v254), .val (.int v255), .val (.int fl), .val (.ref oa), .unset] [])) x.1 x.2.1 x.2.2.1 x.2.2.2.1 x.2.2.2.2.1 x.2.2.2.2.2) ?_ ?_
      · rintro ⟨Tj160, Lj160, hj160, ga0, gb0, ca0⟩ hP160
        obtain ⟨Xj160, ej160, Nj160, zj160, fj160_0, fj160_1, fj160_2, fj160_3, fj160_4, fj160_5, fj160_6, hJ160⟩ : Stand p l e room_1 s m #[(.int p1), (.int p2), (.int p3), (.int p4), (.int p5), (.int p6)] below meth c Tj160 Lj160 14 35 ∧ Tj160.heap = hj160 ∧ Fr n0 Lj160 ∧ n0 ≤ hj160.size ∧ Exa Z hj160 oa "com/example/edgewise/edgewise/EdgeSlots" ∧ Fld Z hj160 oa "com/example/edgewise/edgewise/EdgeSlots" "sources" "[I" (.ref xa) ∧ Fld Z hj160 oa "com/example/edgewise/edgewise/EdgeSlots" "targets" "[I" (.ref xb) ∧ Fld Z hj160 oa "com/example/edgewise/edgewise/EdgeSlots" "bound" "I" (.int (4 : Int32)) ∧ Fld Z hj160 oa "com/example/edgewise/edgewise/EdgeSlots" "count" "I" (.int ca0) ∧ ArF Z hj160 xa .int 4 (fun i => .int (ga0 i)) ∧ ArF Z hj160 xb .int 4 (fun i => .int (gb0 i)) ∧ (ga0 = own_rm (upI (upI (upI (upI (fun _ => (0 : Int32)) 0 v254) 1 v255) 2 v254) 3 v255) v252 (1 : Int32) 0) := hP160
        show Go p.tables e below s _ _ _ (Tj160.setTop (mkF m 160 #[.val (.int p1), .val (.int p2), .val (.int p3), .val (.int p4), .val (.int p5), .val (.int p6), .val (.int (4 : Int32)), .val (.int v252), .val (.int v253), .val (.int v254), .val (.int v255), .val (.int fl), .val (.ref oa), .unset] []))
        refine g_iload Xj160 hx hby at_160 (pc' := 162) rfl rfl ?_
        refine g_iconst Xj160 hx hby at_162 (pc' := 163) rfl (z := (1 : Int32)) rfl ?_
        have hc163 : (1 : Int) < (4 : Int) := by decide
        refine g_icmpNo Xj160 hx hby at_163 (pc' := 166) (tlt (show (1 : Int32) < (4 : Int32) from Int32.lt_iff_toInt_lt.mpr hc163)).2.2.2 rfl ?_
        refine Go.join (α := State × (List Loc) × Heap × (Nat → Int32) × (Nat → Int32) × Int32) (P := fun x => (fun (Tj179 : State) (Lj179 : List Loc) (hj179 : Heap) (ga1 : Nat → Int32) (gb1 : Nat → Int32) (ca1 : Int32) => Stand p l e room_1 s m #[(.int p1), (.int p2), (.int p3), (.int p4), (.int p5), (.int p6)] below meth c Tj179 Lj179 14 35 ∧ Tj179.heap = hj179 ∧ Fr n0 Lj179 ∧ n0 ≤ hj179.size ∧ Exa Z hj179 oa "com/example/edgewise/edgewise/EdgeSlots" ∧ Fld Z hj179 oa "com/example/edgewise/edgewise/EdgeSlots" "sources" "[I" (.ref xa) ∧ Fld Z hj179 oa "com/example/edgewise/edgewise/EdgeSlots" "targets" "[I" (.ref xb) ∧ Fld Z hj179 oa "com/example/edgewise/edgewise/EdgeSlots" "bound" "I" (.int (4 : Int32)) ∧ Fld Z hj179 oa "com/example/edgewise/edgewise/EdgeSlots" "count" "I" (.int ca1) ∧ ArF Z hj179 xa .int 4 (fun i => .int (ga1 i)) ∧ ArF Z hj179 xb .int 4 (fun i => .int (gb1 i)) ∧ (ga1 = own_rm ga0 v252 (2 : Int32) 1)) x.1 x.2.1 x.2.2.1 x.2.2.2.1 x.2.2.2.2.1 x.2.2.2.2.2) (F := fun x => (fun (Tj179 : State) (Lj179 : List Loc) (hj179 : Heap) (ga1 : Nat → Int32) (gb1 : Nat → Int32) (ca1 : Int32) => Tj179.setTop (mkF m 179 #[.val (.int p1), .val (.int p2), .val (.int p3), .val (.int p4), .val (.int p5), .val (.int p6), .val (.int (4 : Int32)), .val (.int v252), .val (.int v253), .val (.int v254), .val (.int v255), .val (.int fl), .val (.ref oa), .unset] [])) x.1 x.2.1 x.2.2.1 x.2.2.2.1 x.2.2.2.2.1 x.2.2.2.2.2) ?_ ?_
        · rintro ⟨Tj179, Lj179, hj179, ga1, gb1, ca1⟩ hP179
          obtain ⟨Xj179, ej179, Nj179, zj179, fj179_0, fj179_1, fj179_2, fj179_3, fj179_4, fj179_5, fj179_6, hJ179⟩ : Stand p l e room_1 s m #[(.int p1), (.int p2), (.int p3), (.int p4), (.int p5), (.int p6)] below meth c Tj179 Lj179 14 35 ∧ Tj179.heap = hj179 ∧ Fr n0 Lj179 ∧ n0 ≤ hj179.size ∧ Exa Z hj179 oa "com/example/edgewise/edgewise/EdgeSlots" ∧ Fld Z hj179 oa "com/example/edgewise/edgewise/EdgeSlots" "sources" "[I" (.ref xa) ∧ Fld Z hj179 oa "com/example/edgewise/edgewise/EdgeSlots" "targets" "[I" (.ref xb) ∧ Fld Z hj179 oa "com/example/edgewise/edgewise/EdgeSlots" "bound" "I" (.int (4 : Int32)) ∧ Fld Z hj179 oa "com/example/edgewise/edgewise/EdgeSlots" "count" "I" (.int ca1) ∧ ArF Z hj179 xa .int 4 (fun i => .int (ga1 i)) ∧ ArF Z hj179 xb .int 4 (fun i => .int (gb1 i)) ∧ (ga1 = own_rm ga0 v252 (2 : Int32) 1) := hP179
          show Go p.tables e below s _ _ _ (Tj179.setTop (mkF m 179 #[.val (.int p1), .val (.int p2), .val (.int p3), .val (.int p4), .val (.int p5), .val (.int p6), .val (.int (4 : Int32)), .val (.int v252), .val (.int v253), .val (.int v254), .val (.int v255), .val (.int fl), .val (.ref oa), .unset] []))
          refine g_iload Xj179 hx hby at_179 (pc' := 181) rfl rfl ?_
          refine g_iconst Xj179 hx hby at_181 (pc' := 182) rfl (z := (2 : Int32)) rfl ?_
          have hc182 : (2 : Int) < (4 : Int) := by decide
          refine g_icmpNo Xj179 hx hby at_182 (pc' := 185) (tlt (show (2 : Int32) < (4 : Int32) from Int32.lt_iff_toInt_lt.mpr hc182)).2.2.2 rfl ?_
          refine Go.join (α := State × (List Loc) × Heap × (Nat → Int32) × (Nat → Int32) × Int32) (P := fun x => (fun (Tj198 : State) (Lj198 : List Loc) (hj198 : Heap) (ga2 : Nat → Int32) (gb2 : Nat → Int32) (ca2 : Int32) => Stand p l e room_1 s m #[(.int p1), (.int p2), (.int p3), (.int p4), (.int p5), (.int p6)] below meth c Tj198 Lj198 14 35 ∧ Tj198.heap = hj198 ∧ Fr n0 Lj198 ∧ n0 ≤ hj198.size ∧ Exa Z hj198 oa "com/example/edgewise/edgewise/EdgeSlots" ∧ Fld Z hj198 oa "com/example/edgewise/edgewise/EdgeSlots" "sources" "[I" (.ref xa) ∧ Fld Z hj198 oa "com/example/edgewise/edgewise/EdgeSlots" "targets" "[I" (.ref xb) ∧ Fld Z hj198 oa "com/example/edgewise/edgewise/EdgeSlots" "bound" "I" (.int (4 : Int32)) ∧ Fld Z hj198 oa "com/example/edgewise/edgewise/EdgeSlots" "count" "I" (.int ca2) ∧ ArF Z hj198 xa .int 4 (fun i => .int (ga2 i)) ∧ ArF Z hj198 xb .int 4 (fun i => .int (gb2 i)) ∧ (ga2 = own_rm ga1 v252 (4 : Int32) 2)) x.1 x.2.1 x.2.2.1 x.2.2.2.1 x.2.2.2.2.1 x.2.2.2.2.2) (F := fun x => (fun (Tj198 : State) (Lj198 : List Loc) (hj198 : Heap) (ga2 : Nat → Int32) (gb2 : Nat → Int32) (ca2 : Int32) => Tj198.setTop (mkF m 198 #[.val (.int p1), .val (.int p2), .val (.int p3), .val (.int p4), .val (.int p5), .val (.int p6), .val (.int (4 : Int32)), .val (.int v252), .val (.int v253), .val (.int v254), .val (.int v255), .val (.int fl), .val (.ref oa), .unset] [])) x.1 x.2.1 x.2.2.1 x.2.2.2.1 x.2.2.2.2.1 x.2.2.2.2.2) ?_ ?_
          · rintro ⟨Tj198, Lj198, hj198, ga2, gb2, ca2⟩ hP198
            obtain ⟨Xj198, ej198, Nj198, zj198, fj198_0, fj198_1, fj198_2, fj198_3, fj198_4, fj198_5, fj198_6, hJ198⟩ : Stand p l e room_1 s m #[(.int p1), (.int p2), (.int p3), (.int p4), (.int p5), (.int p6)] below meth c Tj198 Lj198 14 35 ∧ Tj198.heap = hj198 ∧ Fr n0 Lj198 ∧ n0 ≤ hj198.size ∧ Exa Z hj198 oa "com/example/edgewise/edgewise/EdgeSlots" ∧ Fld Z hj198 oa "com/example/edgewise/edgewise/EdgeSlots" "sources" "[I" (.ref xa) ∧ Fld Z hj198 oa "com/example/edgewise/edgewise/EdgeSlots" "targets" "[I" (.ref xb) ∧ Fld Z hj198 oa "com/example/edgewise/edgewise/EdgeSlots" "bound" "I" (.int (4 : Int32)) ∧ Fld Z hj198 oa "com/example/edgewise/edgewise/EdgeSlots" "count" "I" (.int ca2) ∧ ArF Z hj198 xa .int 4 (fun i => .int (ga2 i)) ∧ ArF Z hj198 xb .int 4 (fun i => .int (gb2 i)) ∧ (ga2 = own_rm ga1 v252 (4 : Int32) 2) := hP198
            show Go p.tables e below s _ _ _ (Tj198.setTop (mkF m 198 #[.val (.int p1), .val (.int p2), .val (.int p3), .val (.int p4), .val (.int p5), .val (.int p6), .val (.int (4 : Int32)), .val (.int v252), .val (.int v253), .val (.int v254), .val (.int v255), .val (.int fl), .val (.ref oa), .unset] []))
            refine g_iload Xj198 hx hby at_198 (pc' := 200) rfl rfl ?_
            refine g_iconst Xj198 hx hby at_200 (pc' := 201) rfl (z := (3 : Int32)) rfl ?_
            have hc201 : (3 : Int) < (4 : Int) := by decide
            refine g_icmpNo Xj198 hx hby at_201 (pc' := 204) (tlt (show (3 : Int32) < (4 : Int32) from Int32.lt_iff_toInt_lt.mpr hc201)).2.2.2 rfl ?_
            refine Go.join (α := State × (List Loc) × Heap × (Nat → Int32) × (Nat → Int32) × Int32) (P := fun x => (fun (Tj218 : State) (Lj218 : List Loc) (hj218 : Heap) (ga3 : Nat → Int32) (gb3 : Nat → Int32) (ca3 : Int32) => Stand p l e room_1 s m #[(.int p1), (.int p2), (.int p3), (.int p4), (.int p5), (.int p6)] below meth c Tj218 Lj218 14 35 ∧ Tj218.heap = hj218 ∧ Fr n0 Lj218 ∧ n0 ≤ hj218.size ∧ Exa Z hj218 oa "com/example/edgewise/edgewise/EdgeSlots" ∧ Fld Z hj218 oa "com/example/edgewise/edgewise/EdgeSlots" "sources" "[I" (.ref xa) ∧ Fld Z hj218 oa "com/example/edgewise/edgewise/EdgeSlots" "targets" "[I" (.ref xb) ∧ Fld Z hj218 oa "com/example/edgewise/edgewise/EdgeSlots" "bound" "I" (.int (4 : Int32)) ∧ Fld Z hj218 oa "com/example/edgewise/edgewise/EdgeSlots" "count" "I" (.int ca3) ∧ ArF Z hj218 xa .int 4 (fun i => .int (ga3 i)) ∧ ArF Z hj218 xb .int 4 (fun i => .int (gb3 i)) ∧ (ga3 = own_rm ga2 v252 (8 : Int32) 3)) x.1 x.2.1 x.2.2.1 x.2.2.2.1 x.2.2.2.2.1 x.2.2.2.2.2) (F := fun x => (fun (Tj218 : State) (Lj218 : List Loc) (hj218 : Heap) (ga3 : Nat → Int32) (gb3 : Nat → Int32) (ca3 : Int32) => Tj218.setTop (mkF m 218 #[.val (.int p1), .val (.int p2), .val (.int p3), .val (.int p4), .val (.int p5), .val (.int p6), .val (.int (4 : Int32)), .val (.int v252), .val (.int v253), .val (.int v254), .val (.int v255), .val (.int fl), .val (.ref oa), .unset] [])) x.1 x.2.1 x.2.2.1 x.2.2.2.1 x.2.2.2.2.1 x.2.2.2.2.2) ?_ ?_
            · rintro ⟨Tj218, Lj218, hj218, ga3, gb3, ca3⟩ hP218
              obtain ⟨Xj218, ej218, Nj218, zj218, fj218_0, fj218_1, fj218_2, fj218_3, fj218_4, fj218_5, fj218_6, hJ218⟩ : Stand p l e room_1 s m #[(.int p1), (.int p2), (.int p3), (.int p4), (.int p5), (.int p6)] below meth c Tj218 Lj218 14 35 ∧ Tj218.heap = hj218 ∧ Fr n0 Lj218 ∧ n0 ≤ hj218.size ∧ Exa Z hj218 oa "com/example/edgewise/edgewise/EdgeSlots" ∧ Fld Z hj218 oa "com/example/edgewise/edgewise/EdgeSlots" "sources" "[I" (.ref xa) ∧ Fld Z hj218 oa "com/example/edgewise/edgewise/EdgeSlots" "targets" "[I" (.ref xb) ∧ Fld Z hj218 oa "com/example/edgewise/edgewise/EdgeSlots" "bound" "I" (.int (4 : Int32)) ∧ Fld Z hj218 oa "com/example/edgewise/edgewise/EdgeSlots" "count" "I" (.int ca3) ∧ ArF Z hj218 xa .int 4 (fun i => .int (ga3 i)) ∧ ArF Z hj218 xb .int 4 (fun i => .int (gb3 i)) ∧ (ga3 = own_rm ga2 v252 (8 : Int32) 3) := hP218
              show Go p.tables e below s _ _ _ (Tj218.setTop (mkF m 218 #[.val (.int p1), .val (.int p2), .val (.int p3), .val (.int p4), .val (.int p5), .val (.int p6), .val (.int (4 : Int32)), .val (.int v252), .val (.int v253), .val (.int v254), .val (.int v255), .val (.int fl), .val (.ref oa), .unset] []))
              refine g_iload Xj218 hx hby at_218 (pc' := 220) rfl rfl ?_
              refine g_istore Xj218 hx hby at_220 (pc' := 222) rfl (L' := #[.val (.int p1), .val (.int p2), .val (.int p3), .val (.int p4), .val (.int p5), .val (.int p6), .val (.int (4 : Int32)), .val (.int v252), .val (.int v253), .val (.int v254), .val (.int v255), .val (.int fl), .val (.ref oa), .val (.int (4 : Int32))]) rfl ?_
              refine Go.join (α := State × (List Loc) × Int32) (P := fun x => (fun (Tj242 : State) (Lj242 : List Loc) (ee3 : Int32) => Stand p l e room_1 s m #[(.int p1), (.int p2), (.int p3), (.int p4), (.int p5), (.int p6)] below meth c Tj242 Lj242 14 35 ∧ Tj242.heap = hj218 ∧ Fr n0 Lj242 ∧ (ee3 = own_ei 3 (3 : Int32) v253 (4 : Int32) v252 (4 : Int32))) x.1 x.2.1 x.2.2) (F := fun x => (fun (Tj242 : State) (Lj242 : List Loc) (ee3 : Int32) => Tj242.setTop (mkF m 242 #[.val (.int p1), .val (.int p2), .val (.int p3), .val (.int p4), .val (.int p5), .val (.int p6), .val (.int (4 : Int32)), .val (.int v252), .val (.int v253), .val (.int v254), .val (.int v255), .val (.int fl), .val (.ref oa), .val (.int ee3)] [])) x.1 x.2.1 x.2.2) ?_ ?_
              · rintro ⟨Tj242, Lj242, ee3⟩ hP242
                obtain ⟨Xj242, ej242, Nj242, hJ242⟩ : Stand p l e room_1 s m #[(.int p1), (.int p2), (.int p3), (.int p4), (.int p5), (.int p6)] below meth c Tj242 Lj242 14 35 ∧ Tj242.heap = hj218 ∧ Fr n0 Lj242 ∧ (ee3 = own_ei 3 (3 : Int32) v253 (4 : Int32) v252 (4 : Int32)) := hP242
                show Go p.tables e below s _ _ _ (Tj242.setTop (mkF m 242 #[.val (.int p1), .val (.int p2), .val (.int p3), .val (.int p4), .val (.int p5), .val (.int p6), .val (.int (4 : Int32)), .val (.int v252), .val (.int v253), .val (.int v254), .val (.int v255), .val (.int fl), .val (.ref oa), .val (.int ee3)] []))
                refine Go.join (α := State × (List Loc) × Int32) (P := fun x => (fun (Tj262 : State) (Lj262 : List Loc) (ee2 : Int32) => Stand p l e room_1 s m #[(.int p1), (.int p2), (.int p3), (.int p4), (.int p5), (.int p6)] below meth c Tj262 Lj262 14 35 ∧ Tj262.heap = hj218 ∧ Fr n0 Lj262 ∧ (ee2 = own_ei 2 (2 : Int32) v253 (4 : Int32) v252 ee3)) x.1 x.2.1 x.2.2) (F := fun x => (fun (Tj262 : State) (Lj262 : List Loc) (ee2 : Int32) => Tj262.setTop (mkF m 262 #[.val (.int p1), .val (.int p2), .val (.int p3), .val (.int p4), .val (.int p5), .val (.int p6), .val (.int (4 : Int32)), .val (.int v252), .val (.int v253), .val (.int v254), .val (.int v255), .val (.int fl), .val (.ref oa), .val (.int ee2)] [])) x.1 x.2.1 x.2.2) ?_ ?_
                · rintro ⟨Tj262, Lj262, ee2⟩ hP262
                  obtain ⟨Xj262, ej262, Nj262, hJ262⟩ : Stand p l e room_1 s m #[(.int p1), (.int p2), (.int p3), (.int p4), (.int p5), (.int p6)] below meth c Tj262 Lj262 14 35 ∧ Tj262.heap = hj218 ∧ Fr n0 Lj262 ∧ (ee2 = own_ei 2 (2 : Int32) v253 (4 : Int32) v252 ee3) := hP262
                  show Go p.tables e below s _ _ _ (Tj262.setTop (mkF m 262 #[.val (.int p1), .val (.int p2), .val (.int p3), .val (.int p4), .val (.int p5), .val (.int p6), .val (.int (4 : Int32)), .val (.int v252), .val (.int v253), .val (.int v254), .val (.int v255), .val (.int fl), .val (.ref oa), .val (.int ee2)] []))
                  refine Go.join (α := State × (List Loc) × Int32) (P := fun x => (fun (Tj282 : State) (Lj282 : List Loc) (ee1 : Int32) => Stand p l e room_1 s m #[(.int p1), (.int p2), (.int p3), (.int p4), (.int p5), (.int p6)] below meth c Tj282 Lj282 14 35 ∧ Tj282.heap = hj218 ∧ Fr n0 Lj282 ∧ (ee1 = own_ei 1 (1 : Int32) v253 (4 : Int32) v252 ee2)) x.1 x.2.1 x.2.2) (F := fun x => (fun (Tj282 : State) (Lj282 : List Loc) (ee1 : Int32) => Tj282.setTop (mkF m 282 #[.val (.int p1), .val (.int p2), .val (.int p3), .val (.int p4), .val (.int p5), .val (.int p6), .val (.int (4 : Int32)), .val (.int v252), .val (.int v253), .val (.int v254), .val (.int v255), .val (.int fl), .val (.ref oa), .val (.int ee1)] [])) x.1 x.2.1 x.2.2) ?_ ?_
                  · rintro ⟨Tj282, Lj282, ee1⟩ hP282
                    obtain ⟨Xj282, ej282, Nj282, hJ282⟩ : Stand p l e room_1 s m #[(.int p1), (.int p2), (.int p3), (.int p4), (.int p5), (.int p6)] below meth c Tj282 Lj282 14 35 ∧ Tj282.heap = hj218 ∧ Fr n0 Lj282 ∧ (ee1 = own_ei 1 (1 : Int32) v253 (4 : Int32) v252 ee2) := hP282
                    show Go p.tables e below s _ _ _ (Tj282.setTop (mkF m 282 #[.val (.int p1), .val (.int p2), .val (.int p3), .val (.int p4), .val (.int p5), .val (.int p6), .val (.int (4 : Int32)), .val (.int v252), .val (.int v253), .val (.int v254), .val (.int v255), .val (.int fl), .val (.ref oa), .val (.int ee1)] []))
                    refine Go.join (α := State × (List Loc) × Int32) (P := fun x => (fun (Tj302 : State) (Lj302 : List Loc) (ee0 : Int32) => Stand p l e room_1 s m #[(.int p1), (.int p2), (.int p3), (.int p4), (.int p5), (.int p6)] below meth c Tj302 Lj302 14 35 ∧ Tj302.heap = hj218 ∧ Fr n0 Lj302 ∧ (ee0 = own_ei 0 (0 : Int32) v253 (4 : Int32) v252 ee1)) x.1 x.2.1 x.2.2) (F := fun x => (fun (Tj302 : State) (Lj302 : List Loc) (ee0 : Int32) => Tj302.setTop (mkF m 302 #[.val (.int p1), .val (.int p2), .val (.int p3), .val (.int p4), .val (.int p5), .val (.int p6), .val (.int (4 : Int32)), .val (.int v252), .val (.int v253), .val (.int v254), .val (.int v255), .val (.int fl), .val (.ref oa), .val (.int ee0)] [])) x.1 x.2.1 x.2.2) ?_ ?_
                    · rintro ⟨Tj302, Lj302, ee0⟩ hP302
                      obtain ⟨Xj302, ej302, Nj302, hJ302⟩ : Stand p l e room_1 s m #[(.int p1), (.int p2), (.int p3), (.int p4), (.int p5), (.int p6)] below meth c Tj302 Lj302 14 35 ∧ Tj302.heap = hj218 ∧ Fr n0 Lj302 ∧ (ee0 = own_ei 0 (0 : Int32) v253 (4 : Int32) v252 ee1) := hP302
                      show Go p.tables e below s _ _ _ (Tj302.setTop (mkF m 302 #[.val (.int p1), .val (.int p2), .val (.int p3), .val (.int p4), .val (.int p5), .val (.int p6), .val (.int (4 : Int32)), .val (.int v252), .val (.int v253), .val (.int v254), .val (.int v255), .val (.int fl), .val (.ref oa), .val (.int ee0)] []))
                      refine g_aload Xj302 hx hby at_302 (pc' := 304) rfl rfl rfl ?_
                      refine g_iload Xj302 hx hby at_304 (pc' := 306) rfl rfl ?_
                      refine Go.callV Xj302 hx hZ (y := (⟨"com/example/edgewise/edgewise/EdgeSlots", "nextLive", "(I)I"⟩ : MethodName)) (z := (⟨"com/example/edgewise/edgewise/EdgeSlots", "nextLive", "(I)I"⟩ : MethodName)) hown (wi hw 33 rfl) (wi hw 34 rfl) (notFace_of_selects (args := #[]) (mvT hZ (wi hw 36 rfl))) (wi hw 36 rfl) (wi hw 35 rfl) (wi hw 3 rfl) (wi hw 37 rfl) (by decide) ej302 (a := oa) (argsL := [(.int v253)]) (rest := []) (W := 0) fj218_0 (rm_nl l Z a0 hw oa v253 xa 4 ga3 (4 : Int32) 4 ks hj218 n0 zj218 fj218_3 fj218_1 fj218_5 rfl hks (by decide) hkle) (hb hby at_306) (by rw [hml]; rfl) rfl pd_aIzI rfl rfl (by decide) (by decide) (by decide) (by decide) ?_
                      intro v256 T256 L256 X256 hQ256
                      obtain ⟨rfl, Nq256, hh256⟩ := hQ256
                      have N256 := Fr.app Nj302 Nq256
                      show Go p.tables e below s _ _ _ (T256.setTop (mkF m 309 #[.val (.int p1), .val (.int p2), .val (.int p3), .val (.int p4), .val (.int p5), .val (.int p6), .val (.int (4 : Int32)), .val (.int v252), .val (.int v253), .val (.int v254), .val (.int v255), .val (.int fl), .val (.ref oa), .val (.int ee0)] [(.int (own_nl ga3 (4 - ks) ks))]))
                      have hfin : (own_nl ga3 (4 - ks) ks) = ee0 := by
                        rw [hJ302, hJ282, hJ262, hJ242, hJ218, hJ198, hJ179, hJ160]
                        exact own_fin4 _ v252 v253 ks hm hks hkle  hva  hvb  hva  hvb
                      rw [hfin]
                      show Go p.tables e below s _ _ _ (T256.setTop (mkF m 309 #[.val (.int p1), .val (.int p2), .val (.int p3), .val (.int p4), .val (.int p5), .val (.int p6), .val (.int (4 : Int32)), .val (.int v252), .val (.int v253), .val (.int v254), .val (.int v255), .val (.int fl), .val (.ref oa), .val (.int ee0)] [(.int ee0)]))
                      refine g_iload X256 hx hby at_309 (pc' := 311) rfl rfl ?_
                      have hc311 : ee0.toInt = ee0.toInt := rfl
                      refine g_icmpNo X256 hx hby at_311 (pc' := 314) (teq (show ee0 = ee0 from Int32.toInt_inj.mp hc311)).2 rfl ?_
                      refine g_iconst X256 hx hby at_314 (pc' := 315) rfl (z := (1 : Int32)) rfl ?_
                      refine g_goto X256 hx hby at_315 (pc' := 319) (by decide) (by decide) ?_
                      refine Go.retZ X256 hx hlk hret (by simp) (hb hby at_319) (by decide) (by decide) ?_
                      exact ⟨rfl, N256⟩
                    intro J302
                    refine g_iconst Xj282 hx hby at_282 (pc' := 283) rfl (z := (0 : Int32)) rfl ?_
                    refine g_iload Xj282 hx hby at_283 (pc' := 285) rfl rfl ?_
                    by_cases hc285 : (0 : Int) < v253.toInt
                    · refine g_icmpYes Xj282 hx hby at_285 (pc' := 302) (tlt (show (0 : Int32) < v253 from Int32.lt_iff_toInt_lt.mpr hc285)).1 (by decide) (by decide) ?_
                      exact J302 (Tj282, _, ee1) ⟨Xj282.more (by decide) (by decide), ej282, Nj282, (show ee1 = own_ei 0 (0 : Int32) v253 (4 : Int32) v252 ee1 from (by unfold own_ei; first | (exfalso; omega) | (rw [if_pos (by omega)]) | (rw [if_neg (by omega)])))⟩
                    · refine g_icmpNo Xj282 hx hby at_285 (pc' := 288) (flt (show ¬ ((0 : Int32) < v253) from fun q => hc285 (Int32.lt_iff_toInt_lt.mp q))).1 rfl ?_
                      refine g_iconst Xj282 hx hby at_288 (pc' := 289) rfl (z := (0 : Int32)) rfl ?_
                      refine g_iload Xj282 hx hby at_289 (pc' := 291) rfl rfl ?_
                      refine g_iload Xj282 hx hby at_291 (pc' := 293) rfl rfl ?_
                      refine Go.callS Xj282 hx hZ (y := (⟨"com/example/edgewise/edgewise/EdgeSlotsNextLivePinLaw", "live", "(III)Z"⟩ : MethodName)) hown (wi hw 29 rfl) (wi hw 30 rfl) (wi hw 31 rfl) (wi hw 32 rfl) (by decide) ej282 (argsL := [(.int (0 : Int32)), (.int (4 : Int32)), (.int v252)]) (rest := []) (W := 0) (rm_live l Z a0 hw (0 : Int32) (4 : Int32) v252 hj218 n0 zj218 ) (hb hby at_293) (by rw [hml]; rfl) rfl pd_aIIIzZ rfl rfl (by decide) (by decide) (by decide) (by decide) ?_
                      intro v257 T257 L257 X257 hQ257
                      obtain ⟨rfl, Nq257, hh257⟩ := hQ257
                      have N257 := Fr.app Nj282 Nq257
                      show Go p.tables e below s _ _ _ (T257.setTop (mkF m 296 #[.val (.int p1), .val (.int p2), .val (.int p3), .val (.int p4), .val (.int p5), .val (.int p6), .val (.int (4 : Int32)), .val (.int v252), .val (.int v253), .val (.int v254), .val (.int v255), .val (.int fl), .val (.ref oa), .val (.int ee1)] [(.int (own_live (0 : Int32) (4 : Int32) v252))]))
                      by_cases hc296 : (own_live (0 : Int32) (4 : Int32) v252).toInt = (0 : Int)
                      · refine g_ifYes X257 hx hby at_296 (pc' := 302) (teq (show (own_live (0 : Int32) (4 : Int32) v252) = (0 : Int32) from Int32.toInt_inj.mp hc296)).1 (by decide) (by decide) ?_
                        exact J302 (T257, _, ee1) ⟨X257.more (by decide) (by decide), hh257, N257, (show ee1 = own_ei 0 (0 : Int32) v253 (4 : Int32) v252 ee1 from (by unfold own_ei; first | (exfalso; omega) | (rw [if_pos (by omega)]) | (rw [if_neg (by omega)])))⟩
                      · refine g_ifNo X257 hx hby at_296 (pc' := 299) (feq (show ¬ ((own_live (0 : Int32) (4 : Int32) v252) = (0 : Int32)) from fun q => hc296 (congrArg Int32.toInt q))).1 rfl ?_
                        refine g_iconst X257 hx hby at_299 (pc' := 300) rfl (z := (0 : Int32)) rfl ?_
                        refine g_istore X257 hx hby at_300 (pc' := 302) rfl (L' := #[.val (.int p1), .val (.int p2), .val (.int p3), .val (.int p4), .val (.int p5), .val (.int p6), .val (.int (4 : Int32)), .val (.int v252), .val (.int v253), .val (.int v254), .val (.int v255), .val (.int fl), .val (.ref oa), .val (.int (0 : Int32))]) rfl ?_
                        exact J302 (T257, _, (0 : Int32)) ⟨X257.more (by decide) (by decide), hh257, N257, (show (0 : Int32) = own_ei 0 (0 : Int32) v253 (4 : Int32) v252 ee1 from (by unfold own_ei; first | (exfalso; omega) | (rw [if_pos (by omega)]) | (rw [if_neg (by omega)])))⟩
                  intro J282
                  refine g_iconst Xj262 hx hby at_262 (pc' := 263) rfl (z := (1 : Int32)) rfl ?_
                  refine g_iload Xj262 hx hby at_263 (pc' := 265) rfl rfl ?_
                  by_cases hc265 : (1 : Int) < v253.toInt
                  · refine g_icmpYes Xj262 hx hby at_265 (pc' := 282) (tlt (show (1 : Int32) < v253 from Int32.lt_iff_toInt_lt.mpr hc265)).1 (by decide) (by decide) ?_
                    exact J282 (Tj262, _, ee2) ⟨Xj262.more (by decide) (by decide), ej262, Nj262, (show ee2 = own_ei 1 (1 : Int32) v253 (4 : Int32) v252 ee2 from (by unfold own_ei; first | (exfalso; omega) | (rw [if_pos (by omega)]) | (rw [if_neg (by omega)])))⟩
                  · refine g_icmpNo Xj262 hx hby at_265 (pc' := 268) (flt (show ¬ ((1 : Int32) < v253) from fun q => hc265 (Int32.lt_iff_toInt_lt.mp q))).1 rfl ?_
                    refine g_iconst Xj262 hx hby at_268 (pc' := 269) rfl (z := (1 : Int32)) rfl ?_
                    refine g_iload Xj262 hx hby at_269 (pc' := 271) rfl rfl ?_
                    refine g_iload Xj262 hx hby at_271 (pc' := 273) rfl rfl ?_
                    refine Go.callS Xj262 hx hZ (y := (⟨"com/example/edgewise/edgewise/EdgeSlotsNextLivePinLaw", "live", "(III)Z"⟩ : MethodName)) hown (wi hw 29 rfl) (wi hw 30 rfl) (wi hw 31 rfl) (wi hw 32 rfl) (by decide) ej262 (argsL := [(.int (1 : Int32)), (.int (4 : Int32)), (.int v252)]) (rest := []) (W := 0) (rm_live l Z a0 hw (1 : Int32) (4 : Int32) v252 hj218 n0 zj218 ) (hb hby at_273) (by rw [hml]; rfl) rfl pd_aIIIzZ rfl rfl (by decide) (by decide) (by decide) (by decide) ?_
                    intro v258 T258 L258 X258 hQ258
                    obtain ⟨rfl, Nq258, hh258⟩ := hQ258
                    have N258 := Fr.app Nj262 Nq258
                    show Go p.tables e below s _ _ _ (T258.setTop (mkF m 276 #[.val (.int p1), .val (.int p2), .val (.int p3), .val (.int p4), .val (.int p5), .val (.int p6), .val (.int (4 : Int32)), .val (.int v252), .val (.int v253), .val (.int v254), .val (.int v255), .val (.int fl), .val (.ref oa), .val (.int ee2)] [(.int (own_live (1 : Int32) (4 : Int32) v252))]))
                    by_cases hc276 : (own_live (1 : Int32) (4 : Int32) v252).toInt = (0 : Int)
                    · refine g_ifYes X258 hx hby at_276 (pc' := 282) (teq (show (own_live (1 : Int32) (4 : Int32) v252) = (0 : Int32) from Int32.toInt_inj.mp hc276)).1 (by decide) (by decide) ?_
                      exact J282 (T258, _, ee2) ⟨X258.more (by decide) (by decide), hh258, N258, (show ee2 = own_ei 1 (1 : Int32) v253 (4 : Int32) v252 ee2 from (by unfold own_ei; first | (exfalso; omega) | (rw [if_pos (by omega)]) | (rw [if_neg (by omega)])))⟩
                    · refine g_ifNo X258 hx hby at_276 (pc' := 279) (feq (show ¬ ((own_live (1 : Int32) (4 : Int32) v252) = (0 : Int32)) from fun q => hc276 (congrArg Int32.toInt q))).1 rfl ?_
                      refine g_iconst X258 hx hby at_279 (pc' := 280) rfl (z := (1 : Int32)) rfl ?_
                      refine g_istore X258 hx hby at_280 (pc' := 282) rfl (L' := #[.val (.int p1), .val (.int p2), .val (.int p3), .val (.int p4), .val (.int p5), .val (.int p6), .val (.int (4 : Int32)), .val (.int v252), .val (.int v253), .val (.int v254), .val (.int v255), .val (.int fl), .val (.ref oa), .val (.int (1 : Int32))]) rfl ?_
                      exact J282 (T258, _, (1 : Int32)) ⟨X258.more (by decide) (by decide), hh258, N258, (show (1 : Int32) = own_ei 1 (1 : Int32) v253 (4 : Int32) v252 ee2 from (by unfold own_ei; first | (exfalso; omega) | (rw [if_pos (by omega)]) | (rw [if_neg (by omega)])))⟩
                intro J262
                refine g_iconst Xj242 hx hby at_242 (pc' := 243) rfl (z := (2 : Int32)) rfl ?_
                refine g_iload Xj242 hx hby at_243 (pc' := 245) rfl rfl ?_
                by_cases hc245 : (2 : Int) < v253.toInt
                · refine g_icmpYes Xj242 hx hby at_245 (pc' := 262) (tlt (show (2 : Int32) < v253 from Int32.lt_iff_toInt_lt.mpr hc245)).1 (by decide) (by decide) ?_
                  exact J262 (Tj242, _, ee3) ⟨Xj242.more (by decide) (by decide), ej242, Nj242, (show ee3 = own_ei 2 (2 : Int32) v253 (4 : Int32) v252 ee3 from (by unfold own_ei; first | (exfalso; omega) | (rw [if_pos (by omega)]) | (rw [if_neg (by omega)])))⟩
                · refine g_icmpNo Xj242 hx hby at_245 (pc' := 248) (flt (show ¬ ((2 : Int32) < v253) from fun q => hc245 (Int32.lt_iff_toInt_lt.mp q))).1 rfl ?_
                  refine g_iconst Xj242 hx hby at_248 (pc' := 249) rfl (z := (2 : Int32)) rfl ?_
                  refine g_iload Xj242 hx hby at_249 (pc' := 251) rfl rfl ?_
                  refine g_iload Xj242 hx hby at_251 (pc' := 253) rfl rfl ?_
                  refine Go.callS Xj242 hx hZ (y := (⟨"com/example/edgewise/edgewise/EdgeSlotsNextLivePinLaw", "live", "(III)Z"⟩ : MethodName)) hown (wi hw 29 rfl) (wi hw 30 rfl) (wi hw 31 rfl) (wi hw 32 rfl) (by decide) ej242 (argsL := [(.int (2 : Int32)), (.int (4 : Int32)), (.int v252)]) (rest := []) (W := 0) (rm_live l Z a0 hw (2 : Int32) (4 : Int32) v252 hj218 n0 zj218 ) (hb hby at_253) (by rw [hml]; rfl) rfl pd_aIIIzZ rfl rfl (by decide) (by decide) (by decide) (by decide) ?_
                  intro v259 T259 L259 X259 hQ259
                  obtain ⟨rfl, Nq259, hh259⟩ := hQ259
                  have N259 := Fr.app Nj242 Nq259
                  show Go p.tables e below s _ _ _ (T259.setTop (mkF m 256 #[.val (.int p1), .val (.int p2), .val (.int p3), .val (.int p4), .val (.int p5), .val (.int p6), .val (.int (4 : Int32)), .val (.int v252), .val (.int v253), .val (.int v254), .val (.int v255), .val (.int fl), .val (.ref oa), .val (.int ee3)] [(.int (own_live (2 : Int32) (4 : Int32) v252))]))
                  by_cases hc256 : (own_live (2 : Int32) (4 : Int32) v252).toInt = (0 : Int)
                  · refine g_ifYes X259 hx hby at_256 (pc' := 262) (teq (show (own_live (2 : Int32) (4 : Int32) v252) = (0 : Int32) from Int32.toInt_inj.mp hc256)).1 (by decide) (by decide) ?_
                    exact J262 (T259, _, ee3) ⟨X259.more (by decide) (by decide), hh259, N259, (show ee3 = own_ei 2 (2 : Int32) v253 (4 : Int32) v252 ee3 from (by unfold own_ei; first | (exfalso; omega) | (rw [if_pos (by omega)]) | (rw [if_neg (by omega)])))⟩
                  · refine g_ifNo X259 hx hby at_256 (pc' := 259) (feq (show ¬ ((own_live (2 : Int32) (4 : Int32) v252) = (0 : Int32)) from fun q => hc256 (congrArg Int32.toInt q))).1 rfl ?_
                    refine g_iconst X259 hx hby at_259 (pc' := 260) rfl (z := (2 : Int32)) rfl ?_
                    refine g_istore X259 hx hby at_260 (pc' := 262) rfl (L' := #[.val (.int p1), .val (.int p2), .val (.int p3), .val (.int p4), .val (.int p5), .val (.int p6), .val (.int (4 : Int32)), .val (.int v252), .val (.int v253), .val (.int v254), .val (.int v255), .val (.int fl), .val (.ref oa), .val (.int (2 : Int32))]) rfl ?_
                    exact J262 (T259, _, (2 : Int32)) ⟨X259.more (by decide) (by decide), hh259, N259, (show (2 : Int32) = own_ei 2 (2 : Int32) v253 (4 : Int32) v252 ee3 from (by unfold own_ei; first | (exfalso; omega) | (rw [if_pos (by omega)]) | (rw [if_neg (by omega)])))⟩
              intro J242
              refine g_iconst Xj218 hx hby at_222 (pc' := 223) rfl (z := (3 : Int32)) rfl ?_
              refine g_iload Xj218 hx hby at_223 (pc' := 225) rfl rfl ?_
              by_cases hc225 : (3 : Int) < v253.toInt
              · refine g_icmpYes Xj218 hx hby at_225 (pc' := 242) (tlt (show (3 : Int32) < v253 from Int32.lt_iff_toInt_lt.mpr hc225)).1 (by decide) (by decide) ?_
                exact J242 (Tj218, _, (4 : Int32)) ⟨Xj218.more (by decide) (by decide), ej218, Nj218, (show (4 : Int32) = own_ei 3 (3 : Int32) v253 (4 : Int32) v252 (4 : Int32) from (by unfold own_ei; first | (exfalso; omega) | (rw [if_pos (by omega)]) | (rw [if_neg (by omega)])))⟩
              · refine g_icmpNo Xj218 hx hby at_225 (pc' := 228) (flt (show ¬ ((3 : Int32) < v253) from fun q => hc225 (Int32.lt_iff_toInt_lt.mp q))).1 rfl ?_
                refine g_iconst Xj218 hx hby at_228 (pc' := 229) rfl (z := (3 : Int32)) rfl ?_
                refine g_iload Xj218 hx hby at_229 (pc' := 231) rfl rfl ?_
                refine g_iload Xj218 hx hby at_231 (pc' := 233) rfl rfl ?_
                refine Go.callS Xj218 hx hZ (y := (⟨"com/example/edgewise/edgewise/EdgeSlotsNextLivePinLaw", "live", "(III)Z"⟩ : MethodName)) hown (wi hw 29 rfl) (wi hw 30 rfl) (wi hw 31 rfl) (wi hw 32 rfl) (by decide) ej218 (argsL := [(.int (3 : Int32)), (.int (4 : Int32)), (.int v252)]) (rest := []) (W := 0) (rm_live l Z a0 hw (3 : Int32) (4 : Int32) v252 hj218 n0 zj218 ) (hb hby at_233) (by rw [hml]; rfl) rfl pd_aIIIzZ rfl rfl (by decide) (by decide) (by decide) (by decide) ?_
                intro v260 T260 L260 X260 hQ260
                obtain ⟨rfl, Nq260, hh260⟩ := hQ260
                have N260 := Fr.app Nj218 Nq260
                show Go p.tables e below s _ _ _ (T260.setTop (mkF m 236 #[.val (.int p1), .val (.int p2), .val (.int p3), .val (.int p4), .val (.int p5), .val (.int p6), .val (.int (4 : Int32)), .val (.int v252), .val (.int v253), .val (.int v254), .val (.int v255), .val (.int fl), .val (.ref oa), .val (.int (4 : Int32))] [(.int (own_live (3 : Int32) (4 : Int32) v252))]))
                by_cases hc236 : (own_live (3 : Int32) (4 : Int32) v252).toInt = (0 : Int)
                · refine g_ifYes X260 hx hby at_236 (pc' := 242) (teq (show (own_live (3 : Int32) (4 : Int32) v252) = (0 : Int32) from Int32.toInt_inj.mp hc236)).1 (by decide) (by decide) ?_
                  exact J242 (T260, _, (4 : Int32)) ⟨X260.more (by decide) (by decide), hh260, N260, (show (4 : Int32) = own_ei 3 (3 : Int32) v253 (4 : Int32) v252 (4 : Int32) from (by unfold own_ei; first | (exfalso; omega) | (rw [if_pos (by omega)]) | (rw [if_neg (by omega)])))⟩
                · refine g_ifNo X260 hx hby at_236 (pc' := 239) (feq (show ¬ ((own_live (3 : Int32) (4 : Int32) v252) = (0 : Int32)) from fun q => hc236 (congrArg Int32.toInt q))).1 rfl ?_
                  refine g_iconst X260 hx hby at_239 (pc' := 240) rfl (z := (3 : Int32)) rfl ?_
                  refine g_istore X260 hx hby at_240 (pc' := 242) rfl (L' := #[.val (.int p1), .val (.int p2), .val (.int p3), .val (.int p4), .val (.int p5), .val (.int p6), .val (.int (4 : Int32)), .val (.int v252), .val (.int v253), .val (.int v254), .val (.int v255), .val (.int fl), .val (.ref oa), .val (.int (3 : Int32))]) rfl ?_
                  exact J242 (T260, _, (3 : Int32)) ⟨X260.more (by decide) (by decide), hh260, N260, (show (3 : Int32) = own_ei 3 (3 : Int32) v253 (4 : Int32) v252 (4 : Int32) from (by unfold own_ei; first | (exfalso; omega) | (rw [if_pos (by omega)]) | (rw [if_neg (by omega)])))⟩
            intro J218
            refine g_iload Xj198 hx hby at_204 (pc' := 206) rfl rfl ?_
            refine g_bipush Xj198 hx hby at_206 (pc' := 208) rfl (z := (8 : Int32)) rfl ?_
            refine g_iand Xj198 hx hby at_208 (pc' := 209) rfl rfl ?_
            by_cases hc209 : (v252 &&& (8 : Int32)).toInt = (0 : Int)
            · refine g_ifYes Xj198 hx hby at_209 (pc' := 218) (teq (show (v252 &&& (8 : Int32)) = (0 : Int32) from Int32.toInt_inj.mp hc209)).1 (by decide) (by decide) ?_
              exact J218 (Tj198, _, hj198, ga2, gb2, ca2) ⟨Xj198.more (by decide) (by decide), ej198, Nj198, zj198, fj198_0, fj198_1, fj198_2, fj198_3, fj198_4, fj198_5, fj198_6, (show ga2 = own_rm ga2 v252 (8 : Int32) 3 from (by unfold own_rm; rw [if_pos hc209]))⟩
            · refine g_ifNo Xj198 hx hby at_209 (pc' := 212) (feq (show ¬ ((v252 &&& (8 : Int32)) = (0 : Int32)) from fun q => hc209 (congrArg Int32.toInt q))).1 rfl ?_
              refine g_aload Xj198 hx hby at_212 (pc' := 214) rfl rfl rfl ?_
              refine g_iconst Xj198 hx hby at_214 (pc' := 215) rfl (z := (3 : Int32)) rfl ?_
              refine Go.callV Xj198 hx hZ (y := (⟨"com/example/edgewise/edgewise/EdgeSlots", "remove", "(I)V"⟩ : MethodName)) (z := (⟨"com/example/edgewise/edgewise/EdgeSlots", "remove", "(I)V"⟩ : MethodName)) hown (wi hw 85 rfl) (wi hw 86 rfl) (notFace_of_selects (args := #[]) (mvT hZ (wi hw 88 rfl))) (wi hw 88 rfl) (wi hw 87 rfl) (wi hw 3 rfl) (wi hw 89 rfl) (by decide) ej198 (a := oa) (argsL := [(.int (3 : Int32))]) (rest := []) (W := 0) fj198_0 (rm_remove4 l Z a0 hw oa (3 : Int32) xa xb ga2 gb2 (4 : Int32) ca2 3 hj198 n0 zj198 fj198_0 fj198_1 fj198_2 fj198_5 fj198_6 fj198_3 fj198_4 ne1 ne2 ne3 ge1 ge2 ge3 rfl (by decide)) (hb hby at_215) (by rw [hml]; rfl) rfl pd_aIzV rfl rfl (by decide) (by decide) (by decide) (by decide) ?_
              intro v261 T261 L261 X261 hQ261
              obtain ⟨h261, e261⟩ : ∃ z, T261.heap = z := ⟨_, rfl⟩
              rw [e261] at hQ261
              obtain ⟨rfl, Nq261, Kq261, Fq0_261, Fq1_261, Fq2_261, Fq3_261, Fq4_261, Fq5_261⟩ := hQ261
              have N261 := Fr.app Nj198 Nq261
              show Go p.tables e below s _ _ _ (T261.setTop (mkF m 218 #[.val (.int p1), .val (.int p2), .val (.int p3), .val (.int p4), .val (.int p5), .val (.int p6), .val (.int (4 : Int32)), .val (.int v252), .val (.int v253), .val (.int v254), .val (.int v255), .val (.int fl), .val (.ref oa), .unset] []))
              have f262 := fj198_0.keep Kq261
              exact J218 (T261, _, h261, (upI ga2 3 (-1 : Int32)), (upI gb2 3 (-1 : Int32)), (ca2 - (1 : Int32))) ⟨X261.more (by decide) (by decide), e261, N261, (Nat.le_trans zj198 Kq261.1), f262, Fq0_261, Fq1_261, Fq4_261, Fq5_261, Fq2_261, Fq3_261, (show (upI ga2 3 (-1 : Int32)) = own_rm ga2 v252 (8 : Int32) 3 from (by unfold own_rm; rw [if_neg hc209]))⟩
          intro J198
          refine g_iload Xj179 hx hby at_185 (pc' := 187) rfl rfl ?_
          refine g_iconst Xj179 hx hby at_187 (pc' := 188) rfl (z := (4 : Int32)) rfl ?_
          refine g_iand Xj179 hx hby at_188 (pc' := 189) rfl rfl ?_
          by_cases hc189 : (v252 &&& (4 : Int32)).toInt = (0 : Int)
          · refine g_ifYes Xj179 hx hby at_189 (pc' := 198) (teq (show (v252 &&& (4 : Int32)) = (0 : Int32) from Int32.toInt_inj.mp hc189)).1 (by decide) (by decide) ?_
            exact J198 (Tj179, _, hj179, ga1, gb1, ca1) ⟨Xj179.more (by decide) (by decide), ej179, Nj179, zj179, fj179_0, fj179_1, fj179_2, fj179_3, fj179_4, fj179_5, fj179_6, (show ga1 = own_rm ga1 v252 (4 : Int32) 2 from (by unfold own_rm; rw [if_pos hc189]))⟩
          · refine g_ifNo Xj179 hx hby at_189 (pc' := 192) (feq (show ¬ ((v252 &&& (4 : Int32)) = (0 : Int32)) from fun q => hc189 (congrArg Int32.toInt q))).1 rfl ?_
            refine g_aload Xj179 hx hby at_192 (pc' := 194) rfl rfl rfl ?_
            refine g_iconst Xj179 hx hby at_194 (pc' := 195) rfl (z := (2 : Int32)) rfl ?_
            refine Go.callV Xj179 hx hZ (y := (⟨"com/example/edgewise/edgewise/EdgeSlots", "remove", "(I)V"⟩ : MethodName)) (z := (⟨"com/example/edgewise/edgewise/EdgeSlots", "remove", "(I)V"⟩ : MethodName)) hown (wi hw 85 rfl) (wi hw 86 rfl) (notFace_of_selects (args := #[]) (mvT hZ (wi hw 88 rfl))) (wi hw 88 rfl) (wi hw 87 rfl) (wi hw 3 rfl) (wi hw 89 rfl) (by decide) ej179 (a := oa) (argsL := [(.int (2 : Int32))]) (rest := []) (W := 0) fj179_0 (rm_remove4 l Z a0 hw oa (2 : Int32) xa xb ga1 gb1 (4 : Int32) ca1 2 hj179 n0 zj179 fj179_0 fj179_1 fj179_2 fj179_5 fj179_6 fj179_3 fj179_4 ne1 ne2 ne3 ge1 ge2 ge3 rfl (by decide)) (hb hby at_195) (by rw [hml]; rfl) rfl pd_aIzV rfl rfl (by decide) (by decide) (by decide) (by decide) ?_
            intro v263 T263 L263 X263 hQ263
            obtain ⟨h263, e263⟩ : ∃ z, T263.heap = z := ⟨_, rfl⟩
            rw [e263] at hQ263
            obtain ⟨rfl, Nq263, Kq263, Fq0_263, Fq1_263, Fq2_263, Fq3_263, Fq4_263, Fq5_263⟩ := hQ263
            have N263 := Fr.app Nj179 Nq263
            show Go p.tables e below s _ _ _ (T263.setTop (mkF m 198 #[.val (.int p1), .val (.int p2), .val (.int p3), .val (.int p4), .val (.int p5), .val (.int p6), .val (.int (4 : Int32)), .val (.int v252), .val (.int v253), .val (.int v254), .val (.int v255), .val (.int fl), .val (.ref oa), .unset] []))
            have f264 := fj179_0.keep Kq263
            exact J198 (T263, _, h263, (upI ga1 2 (-1 : Int32)), (upI gb1 2 (-1 : Int32)), (ca1 - (1 : Int32))) ⟨X263.more (by decide) (by decide), e263, N263, (Nat.le_trans zj179 Kq263.1), f264, Fq0_263, Fq1_263, Fq4_263, Fq5_263, Fq2_263, Fq3_263, (show (upI ga1 2 (-1 : Int32)) = own_rm ga1 v252 (4 : Int32) 2 from (by unfold own_rm; rw [if_neg hc189]))⟩
        intro J179
        refine g_iload Xj160 hx hby at_166 (pc' := 168) rfl rfl ?_
        refine g_iconst Xj160 hx hby at_168 (pc' := 169) rfl (z := (2 : Int32)) rfl ?_
        refine g_iand Xj160 hx hby at_169 (pc' := 170) rfl rfl ?_
        by_cases hc170 : (v252 &&& (2 : Int32)).toInt = (0 : Int)
        · refine g_ifYes Xj160 hx hby at_170 (pc' := 179) (teq (show (v252 &&& (2 : Int32)) = (0 : Int32) from Int32.toInt_inj.mp hc170)).1 (by decide) (by decide) ?_
          exact J179 (Tj160, _, hj160, ga0, gb0, ca0) ⟨Xj160.more (by decide) (by decide), ej160, Nj160, zj160, fj160_0, fj160_1, fj160_2, fj160_3, fj160_4, fj160_5, fj160_6, (show ga0 = own_rm ga0 v252 (2 : Int32) 1 from (by unfold own_rm; rw [if_pos hc170]))⟩
        · refine g_ifNo Xj160 hx hby at_170 (pc' := 173) (feq (show ¬ ((v252 &&& (2 : Int32)) = (0 : Int32)) from fun q => hc170 (congrArg Int32.toInt q))).1 rfl ?_
          refine g_aload Xj160 hx hby at_173 (pc' := 175) rfl rfl rfl ?_
          refine g_iconst Xj160 hx hby at_175 (pc' := 176) rfl (z := (1 : Int32)) rfl ?_
          refine Go.callV Xj160 hx hZ (y := (⟨"com/example/edgewise/edgewise/EdgeSlots", "remove", "(I)V"⟩ : MethodName)) (z := (⟨"com/example/edgewise/edgewise/EdgeSlots", "remove", "(I)V"⟩ : MethodName)) hown (wi hw 85 rfl) (wi hw 86 rfl) (notFace_of_selects (args := #[]) (mvT hZ (wi hw 88 rfl))) (wi hw 88 rfl) (wi hw 87 rfl) (wi hw 3 rfl) (wi hw 89 rfl) (by decide) ej160 (a := oa) (argsL := [(.int (1 : Int32))]) (rest := []) (W := 0) fj160_0 (rm_remove4 l Z a0 hw oa (1 : Int32) xa xb ga0 gb0 (4 : Int32) ca0 1 hj160 n0 zj160 fj160_0 fj160_1 fj160_2 fj160_5 fj160_6 fj160_3 fj160_4 ne1 ne2 ne3 ge1 ge2 ge3 rfl (by decide)) (hb hby at_176) (by rw [hml]; rfl) rfl pd_aIzV rfl rfl (by decide) (by decide) (by decide) (by decide) ?_
          intro v265 T265 L265 X265 hQ265
          obtain ⟨h265, e265⟩ : ∃ z, T265.heap = z := ⟨_, rfl⟩
          rw [e265] at hQ265
          obtain ⟨rfl, Nq265, Kq265, Fq0_265, Fq1_265, Fq2_265, Fq3_265, Fq4_265, Fq5_265⟩ := hQ265
          have N265 := Fr.app Nj160 Nq265
          show Go p.tables e below s _ _ _ (T265.setTop (mkF m 179 #[.val (.int p1), .val (.int p2), .val (.int p3), .val (.int p4), .val (.int p5), .val (.int p6), .val (.int (4 : Int32)), .val (.int v252), .val (.int v253), .val (.int v254), .val (.int v255), .val (.int fl), .val (.ref oa), .unset] []))
          have f266 := fj160_0.keep Kq265
          exact J179 (T265, _, h265, (upI ga0 1 (-1 : Int32)), (upI gb0 1 (-1 : Int32)), (ca0 - (1 : Int32))) ⟨X265.more (by decide) (by decide), e265, N265, (Nat.le_trans zj160 Kq265.1), f266, Fq0_265, Fq1_265, Fq4_265, Fq5_265, Fq2_265, Fq3_265, (show (upI ga0 1 (-1 : Int32)) = own_rm ga0 v252 (2 : Int32) 1 from (by unfold own_rm; rw [if_neg hc170]))⟩
      intro J160
      refine g_iload Xj142 hx hby at_147 (pc' := 149) rfl rfl ?_
      refine g_iconst Xj142 hx hby at_149 (pc' := 150) rfl (z := (1 : Int32)) rfl ?_
      refine g_iand Xj142 hx hby at_150 (pc' := 151) rfl rfl ?_
      by_cases hc151 : (v252 &&& (1 : Int32)).toInt = (0 : Int)
      · refine g_ifYes Xj142 hx hby at_151 (pc' := 160) (teq (show (v252 &&& (1 : Int32)) = (0 : Int32) from Int32.toInt_inj.mp hc151)).1 (by decide) (by decide) ?_
        exact J160 (Tj142, _, hj142, (upI (upI (upI (upI (fun _ => (0 : Int32)) 0 v254) 1 v255) 2 v254) 3 v255), (upI (upI (upI (upI (fun _ => (0 : Int32)) 0 v255) 1 v254) 2 v254) 3 v255), (4 : Int32)) ⟨Xj142.more (by decide) (by decide), ej142, Nj142, zj142, fj142_0, fj142_1, fj142_2, fj142_3, fj142_4, fj142_5, fj142_6, (show (upI (upI (upI (upI (fun _ => (0 : Int32)) 0 v254) 1 v255) 2 v254) 3 v255) = own_rm (upI (upI (upI (upI (fun _ => (0 : Int32)) 0 v254) 1 v255) 2 v254) 3 v255) v252 (1 : Int32) 0 from (by unfold own_rm; rw [if_pos hc151]))⟩
      · refine g_ifNo Xj142 hx hby at_151 (pc' := 154) (feq (show ¬ ((v252 &&& (1 : Int32)) = (0 : Int32)) from fun q => hc151 (congrArg Int32.toInt q))).1 rfl ?_
        refine g_aload Xj142 hx hby at_154 (pc' := 156) rfl rfl rfl ?_
        refine g_iconst Xj142 hx hby at_156 (pc' := 157) rfl (z := (0 : Int32)) rfl ?_
        refine Go.callV Xj142 hx hZ (y := (⟨"com/example/edgewise/edgewise/EdgeSlots", "remove", "(I)V"⟩ : MethodName)) (z := (⟨"com/example/edgewise/edgewise/EdgeSlots", "remove", "(I)V"⟩ : MethodName)) hown (wi hw 85 rfl) (wi hw 86 rfl) (notFace_of_selects (args := #[]) (mvT hZ (wi hw 88 rfl))) (wi hw 88 rfl) (wi hw 87 rfl) (wi hw 3 rfl) (wi hw 89 rfl) (by decide) ej142 (a := oa) (argsL := [(.int (0 : Int32))]) (rest := []) (W := 0) fj142_0 (rm_remove4 l Z a0 hw oa (0 : Int32) xa xb (upI (upI (upI (upI (fun _ => (0 : Int32)) 0 v254) 1 v255) 2 v254) 3 v255) (upI (upI (upI (upI (fun _ => (0 : Int32)) 0 v255) 1 v254) 2 v254) 3 v255) (4 : Int32) (4 : Int32) 0 hj142 n0 zj142 fj142_0 fj142_1 fj142_2 fj142_5 fj142_6 fj142_3 fj142_4 ne1 ne2 ne3 ge1 ge2 ge3 rfl (by decide)) (hb hby at_157) (by rw [hml]; rfl) rfl pd_aIzV rfl rfl (by decide) (by decide) (by decide) (by decide) ?_
        intro v267 T267 L267 X267 hQ267
        obtain ⟨h267, e267⟩ : ∃ z, T267.heap = z := ⟨_, rfl⟩
        rw [e267] at hQ267
        obtain ⟨rfl, Nq267, Kq267, Fq0_267, Fq1_267, Fq2_267, Fq3_267, Fq4_267, Fq5_267⟩ := hQ267
        have N267 := Fr.app Nj142 Nq267
        have Fq5_267 : Fld Z h267 oa "com/example/edgewise/edgewise/EdgeSlots" "count" "I" (.int (3 : Int32)) := Fq5_267
        show Go p.tables e below s _ _ _ (T267.setTop (mkF m 160 #[.val (.int p1), .val (.int p2), .val (.int p3), .val (.int p4), .val (.int p5), .val (.int p6), .val (.int (4 : Int32)), .val (.int v252), .val (.int v253), .val (.int v254), .val (.int v255), .val (.int fl), .val (.ref oa), .unset] []))
        have f268 := fj142_0.keep Kq267
        exact J160 (T267, _, h267, (upI (upI (upI (upI (upI (fun _ => (0 : Int32)) 0 v254) 1 v255) 2 v254) 3 v255) 0 (-1 : Int32)), (upI (upI (upI (upI (upI (fun _ => (0 : Int32)) 0 v255) 1 v254) 2 v254) 3 v255) 0 (-1 : Int32)), (3 : Int32)) ⟨X267.more (by decide) (by decide), e267, N267, (Nat.le_trans zj142 Kq267.1), f268, Fq0_267, Fq1_267, Fq4_267, Fq5_267, Fq2_267, Fq3_267, (show (upI (upI (upI (upI (upI (fun _ => (0 : Int32)) 0 v254) 1 v255) 2 v254) 3 v255) 0 (-1 : Int32)) = own_rm (upI (upI (upI (upI (fun _ => (0 : Int32)) 0 v254) 1 v255) 2 v254) 3 v255) v252 (1 : Int32) 0 from (by unfold own_rm; rw [if_neg hc151]))⟩
    intro J142
    refine g_iload X0 hx hby at_38 (pc' := 40) rfl rfl ?_
    refine g_iconst X0 hx hby at_40 (pc' := 41) rfl (z := (1 : Int32)) rfl ?_
    refine g_iand X0 hx hby at_41 (pc' := 42) rfl rfl ?_
    by_cases hc42 : (p6 &&& (1 : Int32)).toInt = (0 : Int)
    · refine g_ifYes X0 hx hby at_42 (pc' := 49) (teq (show (p6 &&& (1 : Int32)) = (0 : Int32) from Int32.toInt_inj.mp hc42)).1 (by decide) (by decide) ?_
      refine g_iconst X0 hx hby at_49 (pc' := 50) rfl (z := (0 : Int32)) rfl ?_
      refine g_istore X0 hx hby at_50 (pc' := 52) rfl (L' := #[.val (.int p1), .val (.int p2), .val (.int p3), .val (.int p4), .val (.int p5), .val (.int p6), .val (.int (4 : Int32)), .val (.int v252), .val (.int v253), .val (.int v254), .val (.int v255), .val (.int (0 : Int32)), .unset, .unset]) rfl ?_
      have hk0 : True := trivial
      refine g_new X0 hx hby hZ hown (wi hw 1 rfl) (wi hw 2 rfl) (wi hw 3 rfl) e0 at_52 (pc' := 55) rfl (by decide) (by decide) ?_
      intro T269 h269 b269 X269 e269 E269 hb269 A269 D269
      have g270 : n0 ≤ b269 := by rw [hb269]; exact Z0
      have F271 : Fld Z h269 b269 "com/example/edgewise/edgewise/EdgeSlots" "sources" "[I" .null := D269 (Or.inl (wi hw 12 rfl)) (ty := (.array .int)) (by decide)
      have F272 : Fld Z h269 b269 "com/example/edgewise/edgewise/EdgeSlots" "targets" "[I" .null := D269 (Or.inl (wi hw 14 rfl)) (ty := (.array .int)) (by decide)
      have F273 : Fld Z h269 b269 "com/example/edgewise/edgewise/EdgeSlots" "sourcePositions" "[I" .null := D269 (Or.inl (wi hw 16 rfl)) (ty := (.array .int)) (by decide)
      have F274 : Fld Z h269 b269 "com/example/edgewise/edgewise/EdgeSlots" "targetPositions" "[I" .null := D269 (Or.inl (wi hw 18 rfl)) (ty := (.array .int)) (by decide)
      have F275 : Fld Z h269 b269 "com/example/edgewise/edgewise/EdgeSlots" "weights" "[D" .null := D269 (Or.inl (wi hw 21 rfl)) (ty := (.array .double)) (by decide)
      have F276 : Fld Z h269 b269 "com/example/edgewise/edgewise/EdgeSlots" "keys" "[I" .null := D269 (Or.inl (wi hw 23 rfl)) (ty := (.array .int)) (by decide)
      have F277 : Fld Z h269 b269 "com/example/edgewise/edgewise/EdgeSlots" "keptNumbers" "[J" .null := D269 (Or.inl (wi hw 26 rfl)) (ty := (.array .long)) (by decide)
      have F278 : Fld Z h269 b269 "com/example/edgewise/edgewise/EdgeSlots" "keyed" "Z" (.int (0 : Int32)) := D269 (Or.inr (wi hw 28 rfl)) (ty := .boolean) (by decide)
      have F279 : Fld Z h269 b269 "com/example/edgewise/edgewise/EdgeSlots" "bound" "I" (.int (0 : Int32)) := D269 (Or.inl (wi hw 39 rfl)) (ty := .int) (by decide)
      have F280 : Fld Z h269 b269 "com/example/edgewise/edgewise/EdgeSlots" "count" "I" (.int (0 : Int32)) := D269 (Or.inl (wi hw 79 rfl)) (ty := .int) (by decide)
      have F281 : Fld Z h269 b269 "com/example/edgewise/edgewise/EdgeSlots" "nextNumber" "J" (.long (0 : Int64)) := D269 (Or.inl (wi hw 81 rfl)) (ty := .long) (by decide)
      refine g_dup X269 hx hby at_55 (pc' := 56) rfl rfl ?_
      refine g_iload X269 hx hby at_56 (pc' := 58) rfl rfl ?_
      refine Go.callI X269 hx hZ (y := (⟨"com/example/edgewise/edgewise/EdgeSlots", "<init>", "(Z)V"⟩ : MethodName)) hown rfl (wi hw 4 rfl) (wi hw 5 rfl) (wi hw 3 rfl) (wi hw 6 rfl) (by decide) e269 (a := b269) (argsL := [(.int (0 : Int32))]) (rest := [(.ref b269)]) (W := 1) (rm_init0 l Z a0 hw b269 h269 n0 (Nat.le_trans Z0 E269.1) A269 F271 F272 F273 F274 F275 F276 F277 F278 F279 F280 F281 g270) (hb hby at_58) (by rw [hml]; rfl) rfl pd_aZzV rfl rfl (by decide) (by decide) (by decide) (by decide) ?_
      intro v282 T282 L282 X282 hQ282
      obtain ⟨h282, e282⟩ : ∃ z, T282.heap = z := ⟨_, rfl⟩
      rw [e282] at hQ282
      obtain ⟨b1_282, b2_282, b3_282, b4_282, b5_282, b6_282, b7_282, rfl, Nq282, Kq282, gqb1_282, sqb1_282, gqb2_282, sqb2_282, gqb3_282, sqb3_282, gqb4_282, sqb4_282, gqb5_282, sqb5_282, gqb6_282, sqb6_282, gqb7_282, sqb7_282, nqb1_b2_282, nqb1_b3_282, nqb1_b4_282, nqb1_b5_282, nqb1_b6_282, nqb1_b7_282, nqb2_b3_282, nqb2_b4_282, nqb2_b5_282, nqb2_b6_282, nqb2_b7_282, nqb3_b4_282, nqb3_b5_282, nqb3_b6_282, nqb3_b7_282, nqb4_b5_282, nqb4_b6_282, nqb4_b7_282, nqb5_b6_282, nqb5_b7_282, nqb6_b7_282, Fq0_282, Fq1_282, Fq2_282, Fq3_282, Fq4_282, Fq5_282, Fq6_282, Fq7_282, Fq8_282, Fq9_282, Fq10_282, Fq11_282, Fq12_282, Fq13_282, Fq14_282, Fq15_282, Fq16_282, Fq17_282⟩ := hQ282
      have N282 := Fr.app N0 Nq282
      show Go p.tables e below s _ _ _ (T282.setTop (mkF m 61 #[.val (.int p1), .val (.int p2), .val (.int p3), .val (.int p4), .val (.int p5), .val (.int p6), .val (.int (4 : Int32)), .val (.int v252), .val (.int v253), .val (.int v254), .val (.int v255), .val (.int (0 : Int32)), .unset, .unset] [(.ref b269)]))
      refine g_astore X282 hx hby at_61 (pc' := 63) rfl rfl (L' := #[.val (.int p1), .val (.int p2), .val (.int p3), .val (.int p4), .val (.int p5), .val (.int p6), .val (.int (4 : Int32)), .val (.int v252), .val (.int v253), .val (.int v254), .val (.int v255), .val (.int (0 : Int32)), .val (.ref b269), .unset]) rfl ?_
      refine g_iload X282 hx hby at_63 (pc' := 65) rfl rfl ?_
      have hc65 : (0 : Int) < (4 : Int) := by decide
      refine g_ifNo X282 hx hby at_65 (pc' := 68) (tlt (show (0 : Int32) < (4 : Int32) from Int32.lt_iff_toInt_lt.mpr hc65)).2.2.2 rfl ?_
      refine g_aload X282 hx hby at_68 (pc' := 70) rfl rfl rfl ?_
      refine g_iload X282 hx hby at_70 (pc' := 72) rfl rfl ?_
      refine g_iload X282 hx hby at_72 (pc' := 74) rfl rfl ?_
      refine Go.of (fun _ k => XS.dconst1 X282.here hx rfl (hb hby at_74) (v := FP.dconst1) rfl k) ?_
      show Go p.tables e below s _ _ _ (T282.setTop (mkF m 75 #[.val (.int p1), .val (.int p2), .val (.int p3), .val (.int p4), .val (.int p5), .val (.int p6), .val (.int (4 : Int32)), .val (.int v252), .val (.int v253), .val (.int v254), .val (.int v255), .val (.int (0 : Int32)), .val (.ref b269), .unset] [(.double FP.dconst1), (.int v255), (.int v254), (.ref b269)]))
      refine g_iload X282 hx hby at_75 (pc' := 77) rfl rfl ?_
      have f284 := A269.keep Kq282
      have ne285 : b269 ≠ b1_282 := Nat.ne_of_lt (Nat.lt_of_lt_of_le F281.lt sqb1_282)
      have ne286 : b269 ≠ b2_282 := Nat.ne_of_lt (Nat.lt_of_lt_of_le F281.lt sqb2_282)
      have ne287 : b269 ≠ b3_282 := Nat.ne_of_lt (Nat.lt_of_lt_of_le F281.lt sqb3_282)
      have ne288 : b269 ≠ b4_282 := Nat.ne_of_lt (Nat.lt_of_lt_of_le F281.lt sqb4_282)
      have ne289 : b269 ≠ b5_282 := Nat.ne_of_lt (Nat.lt_of_lt_of_le F281.lt sqb5_282)
      have ne290 : b269 ≠ b6_282 := Nat.ne_of_lt (Nat.lt_of_lt_of_le F281.lt sqb6_282)
      refine Go.callV X282 hx hZ (y := (⟨"com/example/edgewise/edgewise/EdgeSlots", "add", "(IIDI)I"⟩ : MethodName)) (z := (⟨"com/example/edgewise/edgewise/EdgeSlots", "add", "(IIDI)I"⟩ : MethodName)) hown (wi hw 40 rfl) (wi hw 41 rfl) (notFace_of_selects (args := #[]) (mvT hZ (wi hw 43 rfl))) (wi hw 43 rfl) (wi hw 42 rfl) (wi hw 3 rfl) (wi hw 44 rfl) (by decide) e282 (a := b269) (argsL := [(.int v254), (.int v255), (.double FP.dconst1), (.int v254)]) (rest := []) (W := 0) f284 (rm_addA0 l Z a0 hw b269 v254 v255 FP.dconst1 v254 b1_282 b2_282 b3_282 b4_282 b5_282 b6_282 b7_282 (fun _ => (0 : Int32)) (fun _ => (0 : Int32)) (fun _ => (0 : Int32)) (fun _ => (0 : Int32)) (fun _ => (0 : UInt64)) (fun _ => (0 : Int32)) (0 : Int32) (0 : Int64) h282 n0 (Nat.le_trans (Nat.le_trans Z0 E269.1) Kq282.1) f284 Fq7_282 Fq6_282 Fq0_282 Fq1_282 Fq2_282 Fq3_282 Fq4_282 Fq5_282 Fq11_282 Fq12_282 Fq13_282 Fq14_282 Fq15_282 Fq16_282 Fq8_282 Fq9_282 Fq10_282 (Ne.symm ne285) (Ne.symm ne286) (Ne.symm ne287) (Ne.symm ne288) (Ne.symm ne289) (Ne.symm ne290) g270) (hb hby at_77) (by rw [hml]; rfl) rfl pd_aIIDIzI rfl rfl (by decide) (by decide) (by decide) (by decide) ?_
      intro v283 T283 L283 X283 hQ283
      obtain ⟨h283, e283⟩ : ∃ z, T283.heap = z := ⟨_, rfl⟩
      rw [e283] at hQ283
      obtain ⟨b1_283, b2_283, b3_283, b4_283, b5_283, rfl, Nq283, Kq283, gqb1_283, sqb1_283, gqb2_283, sqb2_283, gqb3_283, sqb3_283, gqb4_283, sqb4_283, gqb5_283, sqb5_283, nqb1_b2_283, nqb1_b3_283, nqb1_b4_283, nqb1_b5_283, nqb2_b3_283, nqb2_b4_283, nqb2_b5_283, nqb3_b4_283, nqb3_b5_283, nqb4_b5_283, Fq0_283, Fq1_283, Fq2_283, Fq3_283, Fq4_283, Fq5_283, Fq6_283, Fq7_283, Fq8_283, Fq9_283, Fq10_283, Fq11_283, Fq12_283, Fq13_283, Fq14_283, Fq15_283⟩ := hQ283
      have N283 := Fr.app N282 Nq283
      have Fq9_283 : Fld Z h283 b269 "com/example/edgewise/edgewise/EdgeSlots" "count" "I" (.int (1 : Int32)) := Fq9_283
      have Fq10_283 : Fld Z h283 b269 "com/example/edgewise/edgewise/EdgeSlots" "nextNumber" "J" (.long (1 : Int64)) := Fq10_283
      show Go p.tables e below s _ _ _ (T283.setTop (mkF m 80 #[.val (.int p1), .val (.int p2), .val (.int p3), .val (.int p4), .val (.int p5), .val (.int p6), .val (.int (4 : Int32)), .val (.int v252), .val (.int v253), .val (.int v254), .val (.int v255), .val (.int (0 : Int32)), .val (.ref b269), .unset] [(.int (0 : Int32))]))
      refine g_pop X283 hx hby at_80 (pc' := 81) rfl rfl ?_
      refine g_iload X283 hx hby at_81 (pc' := 83) rfl rfl ?_
      refine g_iconst X283 hx hby at_83 (pc' := 84) rfl (z := (1 : Int32)) rfl ?_
      have hc84 : (1 : Int) < (4 : Int) := by decide
      refine g_icmpNo X283 hx hby at_84 (pc' := 87) (tlt (show (1 : Int32) < (4 : Int32) from Int32.lt_iff_toInt_lt.mpr hc84)).2.2.2 rfl ?_
      refine g_aload X283 hx hby at_87 (pc' := 89) rfl rfl rfl ?_
      refine g_iload X283 hx hby at_89 (pc' := 91) rfl rfl ?_
      refine g_iload X283 hx hby at_91 (pc' := 93) rfl rfl ?_
      refine g_ldcD X283 hx hby hZ hown (wi hw 82 rfl) at_93 (pc' := 96) rfl ?_
      refine g_iload X283 hx hby at_96 (pc' := 98) rfl rfl ?_
      have f292 := f284.keep Kq283
      have ne293 : b269 ≠ b1_283 := Nat.ne_of_lt (Nat.lt_of_lt_of_le f284.lt sqb1_283)
      have ne294 : b269 ≠ b2_283 := Nat.ne_of_lt (Nat.lt_of_lt_of_le f284.lt sqb2_283)
      have ne295 : b269 ≠ b5_283 := Nat.ne_of_lt (Nat.lt_of_lt_of_le f284.lt sqb5_283)
      refine Go.callV X283 hx hZ (y := (⟨"com/example/edgewise/edgewise/EdgeSlots", "add", "(IIDI)I"⟩ : MethodName)) (z := (⟨"com/example/edgewise/edgewise/EdgeSlots", "add", "(IIDI)I"⟩ : MethodName)) hown (wi hw 40 rfl) (wi hw 41 rfl) (notFace_of_selects (args := #[]) (mvT hZ (wi hw 43 rfl))) (wi hw 43 rfl) (wi hw 42 rfl) (wi hw 3 rfl) (wi hw 44 rfl) (by decide) e283 (a := b269) (argsL := [(.int v255), (.int v254), (.double (4611686018427387904 : UInt64)), (.int v255)]) (rest := []) (W := 0) f292 (rm_addB0 l Z a0 hw b269 v255 v254 (4611686018427387904 : UInt64) v255 b1_283 b2_283 b3_283 b4_283 b5_283 b6_282 b7_282 (upI (fun _ => (0 : Int32)) 0 v254) (upI (fun _ => (0 : Int32)) 0 v255) (upD (fun _ => (0 : UInt64)) 0 FP.dconst1) (1 : Int32) (1 : Int32) (1 : Int64) 1 h283 n0 (Nat.le_trans (Nat.le_trans (Nat.le_trans Z0 E269.1) Kq282.1) Kq283.1) f292 Fq0_283 Fq1_283 Fq2_283 Fq3_283 Fq4_283 Fq5_283 Fq6_283 Fq7_283 Fq11_283 Fq12_283 Fq15_283 Fq8_283 Fq9_283 Fq10_283 (Ne.symm ne293) (Ne.symm ne294) (Ne.symm ne295) nqb1_b2_283 nqb1_b5_283 nqb2_b5_283 g270 gqb1_283 gqb2_283 gqb5_283 rfl (by decide)) (hb hby at_98) (by rw [hml]; rfl) rfl pd_aIIDIzI rfl rfl (by decide) (by decide) (by decide) (by decide) ?_
      intro v291 T291 L291 X291 hQ291
      obtain ⟨h291, e291⟩ : ∃ z, T291.heap = z := ⟨_, rfl⟩
      rw [e291] at hQ291
      obtain ⟨rfl, Nq291, Kq291, Fq0_291, Fq1_291, Fq2_291, Fq3_291, Fq4_291, Fq5_291, Fq6_291, Fq7_291, Fq8_291, Fq9_291, Fq10_291, Fq11_291, Fq12_291, Fq13_291⟩ := hQ291
      have N291 := Fr.app N283 Nq291
      have Fq8_291 : Fld Z h291 b269 "com/example/edgewise/edgewise/EdgeSlots" "bound" "I" (.int (2 : Int32)) := Fq8_291
      have Fq9_291 : Fld Z h291 b269 "com/example/edgewise/edgewise/EdgeSlots" "count" "I" (.int (2 : Int32)) := Fq9_291
      have Fq10_291 : Fld Z h291 b269 "com/example/edgewise/edgewise/EdgeSlots" "nextNumber" "J" (.long (2 : Int64)) := Fq10_291
      show Go p.tables e below s _ _ _ (T291.setTop (mkF m 101 #[.val (.int p1), .val (.int p2), .val (.int p3), .val (.int p4), .val (.int p5), .val (.int p6), .val (.int (4 : Int32)), .val (.int v252), .val (.int v253), .val (.int v254), .val (.int v255), .val (.int (0 : Int32)), .val (.ref b269), .unset] [(.int (1 : Int32))]))
      refine g_pop X291 hx hby at_101 (pc' := 102) rfl rfl ?_
      refine g_iload X291 hx hby at_102 (pc' := 104) rfl rfl ?_
      refine g_iconst X291 hx hby at_104 (pc' := 105) rfl (z := (2 : Int32)) rfl ?_
      have hc105 : (2 : Int) < (4 : Int) := by decide
      refine g_icmpNo X291 hx hby at_105 (pc' := 108) (tlt (show (2 : Int32) < (4 : Int32) from Int32.lt_iff_toInt_lt.mpr hc105)).2.2.2 rfl ?_
      refine g_aload X291 hx hby at_108 (pc' := 110) rfl rfl rfl ?_
      refine g_iload X291 hx hby at_110 (pc' := 112) rfl rfl ?_
      refine g_iload X291 hx hby at_112 (pc' := 114) rfl rfl ?_
      refine g_ldcD X291 hx hby hZ hown (wi hw 83 rfl) at_114 (pc' := 117) rfl ?_
      refine g_iconst X291 hx hby at_117 (pc' := 118) rfl (z := (0 : Int32)) rfl ?_
      have f297 := f292.keep Kq291
      refine Go.callV X291 hx hZ (y := (⟨"com/example/edgewise/edgewise/EdgeSlots", "add", "(IIDI)I"⟩ : MethodName)) (z := (⟨"com/example/edgewise/edgewise/EdgeSlots", "add", "(IIDI)I"⟩ : MethodName)) hown (wi hw 40 rfl) (wi hw 41 rfl) (notFace_of_selects (args := #[]) (mvT hZ (wi hw 43 rfl))) (wi hw 43 rfl) (wi hw 42 rfl) (wi hw 3 rfl) (wi hw 44 rfl) (by decide) e291 (a := b269) (argsL := [(.int v254), (.int v254), (.double (4613937818241073152 : UInt64)), (.int (0 : Int32))]) (rest := []) (W := 0) f297 (rm_addB0 l Z a0 hw b269 v254 v254 (4613937818241073152 : UInt64) (0 : Int32) b1_283 b2_283 b3_283 b4_283 b5_283 b6_282 b7_282 (upI (upI (fun _ => (0 : Int32)) 0 v254) 1 v255) (upI (upI (fun _ => (0 : Int32)) 0 v255) 1 v254) (upD (upD (fun _ => (0 : UInt64)) 0 FP.dconst1) 1 (4611686018427387904 : UInt64)) (2 : Int32) (2 : Int32) (2 : Int64) 2 h291 n0 (Nat.le_trans (Nat.le_trans (Nat.le_trans (Nat.le_trans Z0 E269.1) Kq282.1) Kq283.1) Kq291.1) f297 Fq0_291 Fq1_291 Fq2_291 Fq3_291 Fq4_291 Fq5_291 Fq6_291 Fq7_291 Fq11_291 Fq12_291 Fq13_291 Fq8_291 Fq9_291 Fq10_291 (Ne.symm ne293) (Ne.symm ne294) (Ne.symm ne295) nqb1_b2_283 nqb1_b5_283 nqb2_b5_283 g270 gqb1_283 gqb2_283 gqb5_283 rfl (by decide)) (hb hby at_118) (by rw [hml]; rfl) rfl pd_aIIDIzI rfl rfl (by decide) (by decide) (by decide) (by decide) ?_
      intro v296 T296 L296 X296 hQ296
      obtain ⟨h296, e296⟩ : ∃ z, T296.heap = z := ⟨_, rfl⟩
      rw [e296] at hQ296
      obtain ⟨rfl, Nq296, Kq296, Fq0_296, Fq1_296, Fq2_296, Fq3_296, Fq4_296, Fq5_296, Fq6_296, Fq7_296, Fq8_296, Fq9_296, Fq10_296, Fq11_296, Fq12_296, Fq13_296⟩ := hQ296
      have N296 := Fr.app N291 Nq296
      have Fq8_296 : Fld Z h296 b269 "com/example/edgewise/edgewise/EdgeSlots" "bound" "I" (.int (3 : Int32)) := Fq8_296
      have Fq9_296 : Fld Z h296 b269 "com/example/edgewise/edgewise/EdgeSlots" "count" "I" (.int (3 : Int32)) := Fq9_296
      have Fq10_296 : Fld Z h296 b269 "com/example/edgewise/edgewise/EdgeSlots" "nextNumber" "J" (.long (3 : Int64)) := Fq10_296
      show Go p.tables e below s _ _ _ (T296.setTop (mkF m 121 #[.val (.int p1), .val (.int p2), .val (.int p3), .val (.int p4), .val (.int p5), .val (.int p6), .val (.int (4 : Int32)), .val (.int v252), .val (.int v253), .val (.int v254), .val (.int v255), .val (.int (0 : Int32)), .val (.ref b269), .unset] [(.int (2 : Int32))]))
      refine g_pop X296 hx hby at_121 (pc' := 122) rfl rfl ?_
      refine g_iload X296 hx hby at_122 (pc' := 124) rfl rfl ?_
      refine g_iconst X296 hx hby at_124 (pc' := 125) rfl (z := (3 : Int32)) rfl ?_
      have hc125 : (3 : Int) < (4 : Int) := by decide
      refine g_icmpNo X296 hx hby at_125 (pc' := 128) (tlt (show (3 : Int32) < (4 : Int32) from Int32.lt_iff_toInt_lt.mpr hc125)).2.2.2 rfl ?_
      refine g_aload X296 hx hby at_128 (pc' := 130) rfl rfl rfl ?_
      refine g_iload X296 hx hby at_130 (pc' := 132) rfl rfl ?_
      refine g_iload X296 hx hby at_132 (pc' := 134) rfl rfl ?_
      refine g_ldcD X296 hx hby hZ hown (wi hw 84 rfl) at_134 (pc' := 137) rfl ?_
      refine g_iconst X296 hx hby at_137 (pc' := 138) rfl (z := (1 : Int32)) rfl ?_
      have f299 := f297.keep Kq296
      refine Go.callV X296 hx hZ (y := (⟨"com/example/edgewise/edgewise/EdgeSlots", "add", "(IIDI)I"⟩ : MethodName)) (z := (⟨"com/example/edgewise/edgewise/EdgeSlots", "add", "(IIDI)I"⟩ : MethodName)) hown (wi hw 40 rfl) (wi hw 41 rfl) (notFace_of_selects (args := #[]) (mvT hZ (wi hw 43 rfl))) (wi hw 43 rfl) (wi hw 42 rfl) (wi hw 3 rfl) (wi hw 44 rfl) (by decide) e296 (a := b269) (argsL := [(.int v255), (.int v255), (.double (4616189618054758400 : UInt64)), (.int (1 : Int32))]) (rest := []) (W := 0) f299 (rm_addB0 l Z a0 hw b269 v255 v255 (4616189618054758400 : UInt64) (1 : Int32) b1_283 b2_283 b3_283 b4_283 b5_283 b6_282 b7_282 (upI (upI (upI (fun _ => (0 : Int32)) 0 v254) 1 v255) 2 v254) (upI (upI (upI (fun _ => (0 : Int32)) 0 v255) 1 v254) 2 v254) (upD (upD (upD (fun _ => (0 : UInt64)) 0 FP.dconst1) 1 (4611686018427387904 : UInt64)) 2 (4613937818241073152 : UInt64)) (3 : Int32) (3 : Int32) (3 : Int64) 3 h296 n0 (Nat.le_trans (Nat.le_trans (Nat.le_trans (Nat.le_trans (Nat.le_trans Z0 E269.1) Kq282.1) Kq283.1) Kq291.1) Kq296.1) f299 Fq0_296 Fq1_296 Fq2_296 Fq3_296 Fq4_296 Fq5_296 Fq6_296 Fq7_296 Fq11_296 Fq12_296 Fq13_296 Fq8_296 Fq9_296 Fq10_296 (Ne.symm ne293) (Ne.symm ne294) (Ne.symm ne295) nqb1_b2_283 nqb1_b5_283 nqb2_b5_283 g270 gqb1_283 gqb2_283 gqb5_283 rfl (by decide)) (hb hby at_138) (by rw [hml]; rfl) rfl pd_aIIDIzI rfl rfl (by decide) (by decide) (by decide) (by decide) ?_
      intro v298 T298 L298 X298 hQ298
      obtain ⟨h298, e298⟩ : ∃ z, T298.heap = z := ⟨_, rfl⟩
      rw [e298] at hQ298
      obtain ⟨rfl, Nq298, Kq298, Fq0_298, Fq1_298, Fq2_298, Fq3_298, Fq4_298, Fq5_298, Fq6_298, Fq7_298, Fq8_298, Fq9_298, Fq10_298, Fq11_298, Fq12_298, Fq13_298⟩ := hQ298
      have N298 := Fr.app N296 Nq298
      have Fq8_298 : Fld Z h298 b269 "com/example/edgewise/edgewise/EdgeSlots" "bound" "I" (.int (4 : Int32)) := Fq8_298
      have Fq9_298 : Fld Z h298 b269 "com/example/edgewise/edgewise/EdgeSlots" "count" "I" (.int (4 : Int32)) := Fq9_298
      have Fq10_298 : Fld Z h298 b269 "com/example/edgewise/edgewise/EdgeSlots" "nextNumber" "J" (.long (4 : Int64)) := Fq10_298
      show Go p.tables e below s _ _ _ (T298.setTop (mkF m 141 #[.val (.int p1), .val (.int p2), .val (.int p3), .val (.int p4), .val (.int p5), .val (.int p6), .val (.int (4 : Int32)), .val (.int v252), .val (.int v253), .val (.int v254), .val (.int v255), .val (.int (0 : Int32)), .val (.ref b269), .unset] [(.int (3 : Int32))]))
      refine g_pop X298 hx hby at_141 (pc' := 142) rfl rfl ?_
      have f300 := f299.keep Kq298
      exact J142 (T298, _, h298, (0 : Int32), b269, b1_283, b2_283) ⟨X298.more (by decide) (by decide), e298, N298, (Nat.le_trans (Nat.le_trans (Nat.le_trans (Nat.le_trans (Nat.le_trans (Nat.le_trans Z0 E269.1) Kq282.1) Kq283.1) Kq291.1) Kq296.1) Kq298.1), f300, Fq2_298, Fq3_298, Fq8_298, Fq9_298, Fq11_298, Fq12_298, (show b1_283 ≠ b269 ∧ b2_283 ≠ b269 ∧ b1_283 ≠ b2_283 ∧ n0 ≤ b269 ∧ n0 ≤ b1_283 ∧ n0 ≤ b2_283 from ⟨(Ne.symm ne293), (Ne.symm ne294), nqb1_b2_283, g270, gqb1_283, gqb2_283⟩)⟩
    · refine g_ifNo X0 hx hby at_42 (pc' := 45) (feq (show ¬ ((p6 &&& (1 : Int32)) = (0 : Int32)) from fun q => hc42 (congrArg Int32.toInt q))).1 rfl ?_
      refine g_iconst X0 hx hby at_45 (pc' := 46) rfl (z := (1 : Int32)) rfl ?_
      refine g_goto X0 hx hby at_46 (pc' := 50) (by decide) (by decide) ?_
      refine g_istore X0 hx hby at_50 (pc' := 52) rfl (L' := #[.val (.int p1), .val (.int p2), .val (.int p3), .val (.int p4), .val (.int p5), .val (.int p6), .val (.int (4 : Int32)), .val (.int v252), .val (.int v253), .val (.int v254), .val (.int v255), .val (.int (1 : Int32)), .unset, .unset]) rfl ?_
      have hk0 : True := trivial
      refine g_new X0 hx hby hZ hown (wi hw 1 rfl) (wi hw 2 rfl) (wi hw 3 rfl) e0 at_52 (pc' := 55) rfl (by decide) (by decide) ?_
      intro T301 h301 b301 X301 e301 E301 hb301 A301 D301
      have g302 : n0 ≤ b301 := by rw [hb301]; exact Z0
      have F303 : Fld Z h301 b301 "com/example/edgewise/edgewise/EdgeSlots" "sources" "[I" .null := D301 (Or.inl (wi hw 12 rfl)) (ty := (.array .int)) (by decide)
      have F304 : Fld Z h301 b301 "com/example/edgewise/edgewise/EdgeSlots" "targets" "[I" .null := D301 (Or.inl (wi hw 14 rfl)) (ty := (.array .int)) (by decide)
      have F305 : Fld Z h301 b301 "com/example/edgewise/edgewise/EdgeSlots" "sourcePositions" "[I" .null := D301 (Or.inl (wi hw 16 rfl)) (ty := (.array .int)) (by decide)
      have F306 : Fld Z h301 b301 "com/example/edgewise/edgewise/EdgeSlots" "targetPositions" "[I" .null := D301 (Or.inl (wi hw 18 rfl)) (ty := (.array .int)) (by decide)
      have F307 : Fld Z h301 b301 "com/example/edgewise/edgewise/EdgeSlots" "weights" "[D" .null := D301 (Or.inl (wi hw 21 rfl)) (ty := (.array .double)) (by decide)
      have F308 : Fld Z h301 b301 "com/example/edgewise/edgewise/EdgeSlots" "keys" "[I" .null := D301 (Or.inl (wi hw 23 rfl)) (ty := (.array .int)) (by decide)
      have F309 : Fld Z h301 b301 "com/example/edgewise/edgewise/EdgeSlots" "keptNumbers" "[J" .null := D301 (Or.inl (wi hw 26 rfl)) (ty := (.array .long)) (by decide)
      have F310 : Fld Z h301 b301 "com/example/edgewise/edgewise/EdgeSlots" "keyed" "Z" (.int (0 : Int32)) := D301 (Or.inr (wi hw 28 rfl)) (ty := .boolean) (by decide)
      have F311 : Fld Z h301 b301 "com/example/edgewise/edgewise/EdgeSlots" "bound" "I" (.int (0 : Int32)) := D301 (Or.inl (wi hw 39 rfl)) (ty := .int) (by decide)
      have F312 : Fld Z h301 b301 "com/example/edgewise/edgewise/EdgeSlots" "count" "I" (.int (0 : Int32)) := D301 (Or.inl (wi hw 79 rfl)) (ty := .int) (by decide)
      have F313 : Fld Z h301 b301 "com/example/edgewise/edgewise/EdgeSlots" "nextNumber" "J" (.long (0 : Int64)) := D301 (Or.inl (wi hw 81 rfl)) (ty := .long) (by decide)
      refine g_dup X301 hx hby at_55 (pc' := 56) rfl rfl ?_
      refine g_iload X301 hx hby at_56 (pc' := 58) rfl rfl ?_
      refine Go.callI X301 hx hZ (y := (⟨"com/example/edgewise/edgewise/EdgeSlots", "<init>", "(Z)V"⟩ : MethodName)) hown rfl (wi hw 4 rfl) (wi hw 5 rfl) (wi hw 3 rfl) (wi hw 6 rfl) (by decide) e301 (a := b301) (argsL := [(.int (1 : Int32))]) (rest := [(.ref b301)]) (W := 1) (rm_init1 l Z a0 hw b301 h301 n0 (Nat.le_trans Z0 E301.1) A301 F303 F304 F305 F306 F307 F308 F309 F310 F311 F312 F313 g302) (hb hby at_58) (by rw [hml]; rfl) rfl pd_aZzV rfl rfl (by decide) (by decide) (by decide) (by decide) ?_
      intro v314 T314 L314 X314 hQ314
      obtain ⟨h314, e314⟩ : ∃ z, T314.heap = z := ⟨_, rfl⟩
      rw [e314] at hQ314
      obtain ⟨b1_314, b2_314, b3_314, b4_314, b5_314, b6_314, b7_314, rfl, Nq314, Kq314, gqb1_314, sqb1_314, gqb2_314, sqb2_314, gqb3_314, sqb3_314, gqb4_314, sqb4_314, gqb5_314, sqb5_314, gqb6_314, sqb6_314, gqb7_314, sqb7_314, nqb1_b2_314, nqb1_b3_314, nqb1_b4_314, nqb1_b5_314, nqb1_b6_314, nqb1_b7_314, nqb2_b3_314, nqb2_b4_314, nqb2_b5_314, nqb2_b6_314, nqb2_b7_314, nqb3_b4_314, nqb3_b5_314, nqb3_b6_314, nqb3_b7_314, nqb4_b5_314, nqb4_b6_314, nqb4_b7_314, nqb5_b6_314, nqb5_b7_314, nqb6_b7_314, Fq0_314, Fq1_314, Fq2_314, Fq3_314, Fq4_314, Fq5_314, Fq6_314, Fq7_314, Fq8_314, Fq9_314, Fq10_314, Fq11_314, Fq12_314, Fq13_314, Fq14_314, Fq15_314, Fq16_314, Fq17_314⟩ := hQ314
      have N314 := Fr.app N0 Nq314
      show Go p.tables e below s _ _ _ (T314.setTop (mkF m 61 #[.val (.int p1), .val (.int p2), .val (.int p3), .val (.int p4), .val (.int p5), .val (.int p6), .val (.int (4 : Int32)), .val (.int v252), .val (.int v253), .val (.int v254), .val (.int v255), .val (.int (1 : Int32)), .unset, .unset] [(.ref b301)]))
      refine g_astore X314 hx hby at_61 (pc' := 63) rfl rfl (L' := #[.val (.int p1), .val (.int p2), .val (.int p3), .val (.int p4), .val (.int p5), .val (.int p6), .val (.int (4 : Int32)), .val (.int v252), .val (.int v253), .val (.int v254), .val (.int v255), .val (.int (1 : Int32)), .val (.ref b301), .unset]) rfl ?_
      refine g_iload X314 hx hby at_63 (pc' := 65) rfl rfl ?_
      have hc65 : (0 : Int) < (4 : Int) := by decide
      refine g_ifNo X314 hx hby at_65 (pc' := 68) (tlt (show (0 : Int32) < (4 : Int32) from Int32.lt_iff_toInt_lt.mpr hc65)).2.2.2 rfl ?_
      refine g_aload X314 hx hby at_68 (pc' := 70) rfl rfl rfl ?_
      refine g_iload X314 hx hby at_70 (pc' := 72) rfl rfl ?_
      refine g_iload X314 hx hby at_72 (pc' := 74) rfl rfl ?_
      refine Go.of (fun _ k => XS.dconst1 X314.here hx rfl (hb hby at_74) (v := FP.dconst1) rfl k) ?_
      show Go p.tables e below s _ _ _ (T314.setTop (mkF m 75 #[.val (.int p1), .val (.int p2), .val (.int p3), .val (.int p4), .val (.int p5), .val (.int p6), .val (.int (4 : Int32)), .val (.int v252), .val (.int v253), .val (.int v254), .val (.int v255), .val (.int (1 : Int32)), .val (.ref b301), .unset] [(.double FP.dconst1), (.int v255), (.int v254), (.ref b301)]))
      refine g_iload X314 hx hby at_75 (pc' := 77) rfl rfl ?_
      have f316 := A301.keep Kq314
      have ne317 : b301 ≠ b1_314 := Nat.ne_of_lt (Nat.lt_of_lt_of_le F313.lt sqb1_314)
      have ne318 : b301 ≠ b2_314 := Nat.ne_of_lt (Nat.lt_of_lt_of_le F313.lt sqb2_314)
      have ne319 : b301 ≠ b3_314 := Nat.ne_of_lt (Nat.lt_of_lt_of_le F313.lt sqb3_314)
      have ne320 : b301 ≠ b4_314 := Nat.ne_of_lt (Nat.lt_of_lt_of_le F313.lt sqb4_314)
      have ne321 : b301 ≠ b5_314 := Nat.ne_of_lt (Nat.lt_of_lt_of_le F313.lt sqb5_314)
      have ne322 : b301 ≠ b6_314 := Nat.ne_of_lt (Nat.lt_of_lt_of_le F313.lt sqb6_314)
      refine Go.callV X314 hx hZ (y := (⟨"com/example/edgewise/edgewise/EdgeSlots", "add", "(IIDI)I"⟩ : MethodName)) (z := (⟨"com/example/edgewise/edgewise/EdgeSlots", "add", "(IIDI)I"⟩ : MethodName)) hown (wi hw 40 rfl) (wi hw 41 rfl) (notFace_of_selects (args := #[]) (mvT hZ (wi hw 43 rfl))) (wi hw 43 rfl) (wi hw 42 rfl) (wi hw 3 rfl) (wi hw 44 rfl) (by decide) e314 (a := b301) (argsL := [(.int v254), (.int v255), (.double FP.dconst1), (.int v254)]) (rest := []) (W := 0) f316 (rm_addA1 l Z a0 hw b301 v254 v255 FP.dconst1 v254 b1_314 b2_314 b3_314 b4_314 b5_314 b6_314 b7_314 (fun _ => (0 : Int32)) (fun _ => (0 : Int32)) (fun _ => (0 : Int32)) (fun _ => (0 : Int32)) (fun _ => (0 : UInt64)) (fun _ => (0 : Int32)) (0 : Int32) (0 : Int64) h314 n0 (Nat.le_trans (Nat.le_trans Z0 E301.1) Kq314.1) f316 Fq7_314 Fq6_314 Fq0_314 Fq1_314 Fq2_314 Fq3_314 Fq4_314 Fq5_314 Fq11_314 Fq12_314 Fq13_314 Fq14_314 Fq15_314 Fq16_314 Fq8_314 Fq9_314 Fq10_314 (Ne.symm ne317) (Ne.symm ne318) (Ne.symm ne319) (Ne.symm ne320) (Ne.symm ne321) (Ne.symm ne322) g302) (hb hby at_77) (by rw [hml]; rfl) rfl pd_aIIDIzI rfl rfl (by decide) (by decide) (by decide) (by decide) ?_
      intro v315 T315 L315 X315 hQ315
      obtain ⟨h315, e315⟩ : ∃ z, T315.heap = z := ⟨_, rfl⟩
      rw [e315] at hQ315
      obtain ⟨b1_315, b2_315, b3_315, b4_315, b5_315, b6_315, rfl, Nq315, Kq315, gqb1_315, sqb1_315, gqb2_315, sqb2_315, gqb3_315, sqb3_315, gqb4_315, sqb4_315, gqb5_315, sqb5_315, gqb6_315, sqb6_315, nqb1_b2_315, nqb1_b3_315, nqb1_b4_315, nqb1_b5_315, nqb1_b6_315, nqb2_b3_315, nqb2_b4_315, nqb2_b5_315, nqb2_b6_315, nqb3_b4_315, nqb3_b5_315, nqb3_b6_315, nqb4_b5_315, nqb4_b6_315, nqb5_b6_315, Fq0_315, Fq1_315, Fq2_315, Fq3_315, Fq4_315, Fq5_315, Fq6_315, Fq7_315, Fq8_315, Fq9_315, Fq10_315, Fq11_315, Fq12_315, Fq13_315, Fq14_315, Fq15_315, Fq16_315⟩ := hQ315
      have N315 := Fr.app N314 Nq315
      have Fq9_315 : Fld Z h315 b301 "com/example/edgewise/edgewise/EdgeSlots" "count" "I" (.int (1 : Int32)) := Fq9_315
      have Fq10_315 : Fld Z h315 b301 "com/example/edgewise/edgewise/EdgeSlots" "nextNumber" "J" (.long (1 : Int64)) := Fq10_315
      show Go p.tables e below s _ _ _ (T315.setTop (mkF m 80 #[.val (.int p1), .val (.int p2), .val (.int p3), .val (.int p4), .val (.int p5), .val (.int p6), .val (.int (4 : Int32)), .val (.int v252), .val (.int v253), .val (.int v254), .val (.int v255), .val (.int (1 : Int32)), .val (.ref b301), .unset] [(.int (0 : Int32))]))
      refine g_pop X315 hx hby at_80 (pc' := 81) rfl rfl ?_
      refine g_iload X315 hx hby at_81 (pc' := 83) rfl rfl ?_
      refine g_iconst X315 hx hby at_83 (pc' := 84) rfl (z := (1 : Int32)) rfl ?_
      have hc84 : (1 : Int) < (4 : Int) := by decide
      refine g_icmpNo X315 hx hby at_84 (pc' := 87) (tlt (show (1 : Int32) < (4 : Int32) from Int32.lt_iff_toInt_lt.mpr hc84)).2.2.2 rfl ?_
      refine g_aload X315 hx hby at_87 (pc' := 89) rfl rfl rfl ?_
      refine g_iload X315 hx hby at_89 (pc' := 91) rfl rfl ?_
      refine g_iload X315 hx hby at_91 (pc' := 93) rfl rfl ?_
      refine g_ldcD X315 hx hby hZ hown (wi hw 82 rfl) at_93 (pc' := 96) rfl ?_
      refine g_iload X315 hx hby at_96 (pc' := 98) rfl rfl ?_
      have f324 := f316.keep Kq315
      have ne325 : b301 ≠ b1_315 := Nat.ne_of_lt (Nat.lt_of_lt_of_le f316.lt sqb1_315)
      have ne326 : b301 ≠ b2_315 := Nat.ne_of_lt (Nat.lt_of_lt_of_le f316.lt sqb2_315)
      have ne327 : b301 ≠ b5_315 := Nat.ne_of_lt (Nat.lt_of_lt_of_le f316.lt sqb5_315)
      have ne328 : b301 ≠ b6_315 := Nat.ne_of_lt (Nat.lt_of_lt_of_le f316.lt sqb6_315)
      refine Go.callV X315 hx hZ (y := (⟨"com/example/edgewise/edgewise/EdgeSlots", "add", "(IIDI)I"⟩ : MethodName)) (z := (⟨"com/example/edgewise/edgewise/EdgeSlots", "add", "(IIDI)I"⟩ : MethodName)) hown (wi hw 40 rfl) (wi hw 41 rfl) (notFace_of_selects (args := #[]) (mvT hZ (wi hw 43 rfl))) (wi hw 43 rfl) (wi hw 42 rfl) (wi hw 3 rfl) (wi hw 44 rfl) (by decide) e315 (a := b301) (argsL := [(.int v255), (.int v254), (.double (4611686018427387904 : UInt64)), (.int v255)]) (rest := []) (W := 0) f324 (rm_addB1 l Z a0 hw b301 v255 v254 (4611686018427387904 : UInt64) v255 b1_315 b2_315 b3_315 b4_315 b5_315 b6_315 b7_314 (upI (fun _ => (0 : Int32)) 0 v254) (upI (fun _ => (0 : Int32)) 0 v255) (upD (fun _ => (0 : UInt64)) 0 FP.dconst1) (upI (fun _ => (0 : Int32)) 0 v254) (1 : Int32) (1 : Int32) (1 : Int64) 1 h315 n0 (Nat.le_trans (Nat.le_trans (Nat.le_trans Z0 E301.1) Kq314.1) Kq315.1) f324 Fq0_315 Fq1_315 Fq2_315 Fq3_315 Fq4_315 Fq5_315 Fq6_315 Fq7_315 Fq11_315 Fq12_315 Fq15_315 Fq16_315 Fq8_315 Fq9_315 Fq10_315 (Ne.symm ne325) (Ne.symm ne326) (Ne.symm ne327) (Ne.symm ne328) nqb1_b2_315 nqb1_b5_315 nqb1_b6_315 nqb2_b5_315 nqb2_b6_315 nqb5_b6_315 g302 gqb1_315 gqb2_315 gqb5_315 gqb6_315 rfl (by decide)) (hb hby at_98) (by rw [hml]; rfl) rfl pd_aIIDIzI rfl rfl (by decide) (by decide) (by decide) (by decide) ?_
      intro v323 T323 L323 X323 hQ323
      obtain ⟨h323, e323⟩ : ∃ z, T323.heap = z := ⟨_, rfl⟩
      rw [e323] at hQ323
      obtain ⟨rfl, Nq323, Kq323, Fq0_323, Fq1_323, Fq2_323, Fq3_323, Fq4_323, Fq5_323, Fq6_323, Fq7_323, Fq8_323, Fq9_323, Fq10_323, Fq11_323, Fq12_323, Fq13_323, Fq14_323⟩ := hQ323
      have N323 := Fr.app N315 Nq323
      have Fq8_323 : Fld Z h323 b301 "com/example/edgewise/edgewise/EdgeSlots" "bound" "I" (.int (2 : Int32)) := Fq8_323
      have Fq9_323 : Fld Z h323 b301 "com/example/edgewise/edgewise/EdgeSlots" "count" "I" (.int (2 : Int32)) := Fq9_323
      have Fq10_323 : Fld Z h323 b301 "com/example/edgewise/edgewise/EdgeSlots" "nextNumber" "J" (.long (2 : Int64)) := Fq10_323
      show Go p.tables e below s _ _ _ (T323.setTop (mkF m 101 #[.val (.int p1), .val (.int p2), .val (.int p3), .val (.int p4), .val (.int p5), .val (.int p6), .val (.int (4 : Int32)), .val (.int v252), .val (.int v253), .val (.int v254), .val (.int v255), .val (.int (1 : Int32)), .val (.ref b301), .unset] [(.int (1 : Int32))]))
      refine g_pop X323 hx hby at_101 (pc' := 102) rfl rfl ?_
      refine g_iload X323 hx hby at_102 (pc' := 104) rfl rfl ?_
      refine g_iconst X323 hx hby at_104 (pc' := 105) rfl (z := (2 : Int32)) rfl ?_
      have hc105 : (2 : Int) < (4 : Int) := by decide
      refine g_icmpNo X323 hx hby at_105 (pc' := 108) (tlt (show (2 : Int32) < (4 : Int32) from Int32.lt_iff_toInt_lt.mpr hc105)).2.2.2 rfl ?_
      refine g_aload X323 hx hby at_108 (pc' := 110) rfl rfl rfl ?_
      refine g_iload X323 hx hby at_110 (pc' := 112) rfl rfl ?_
      refine g_iload X323 hx hby at_112 (pc' := 114) rfl rfl ?_
      refine g_ldcD X323 hx hby hZ hown (wi hw 83 rfl) at_114 (pc' := 117) rfl ?_
      refine g_iconst X323 hx hby at_117 (pc' := 118) rfl (z := (0 : Int32)) rfl ?_
      have f330 := f324.keep Kq323
      refine Go.callV X323 hx hZ (y := (⟨"com/example/edgewise/edgewise/EdgeSlots", "add", "(IIDI)I"⟩ : MethodName)) (z := (⟨"com/example/edgewise/edgewise/EdgeSlots", "add", "(IIDI)I"⟩ : MethodName)) hown (wi hw 40 rfl) (wi hw 41 rfl) (notFace_of_selects (args := #[]) (mvT hZ (wi hw 43 rfl))) (wi hw 43 rfl) (wi hw 42 rfl) (wi hw 3 rfl) (wi hw 44 rfl) (by decide) e323 (a := b301) (argsL := [(.int v254), (.int v254), (.double (4613937818241073152 : UInt64)), (.int (0 : Int32))]) (rest := []) (W := 0) f330 (rm_addB1 l Z a0 hw b301 v254 v254 (4613937818241073152 : UInt64) (0 : Int32) b1_315 b2_315 b3_315 b4_315 b5_315 b6_315 b7_314 (upI (upI (fun _ => (0 : Int32)) 0 v254) 1 v255) (upI (upI (fun _ => (0 : Int32)) 0 v255) 1 v254) (upD (upD (fun _ => (0 : UInt64)) 0 FP.dconst1) 1 (4611686018427387904 : UInt64)) (upI (upI (fun _ => (0 : Int32)) 0 v254) 1 v255) (2 : Int32) (2 : Int32) (2 : Int64) 2 h323 n0 (Nat.le_trans (Nat.le_trans (Nat.le_trans (Nat.le_trans Z0 E301.1) Kq314.1) Kq315.1) Kq323.1) f330 Fq0_323 Fq1_323 Fq2_323 Fq3_323 Fq4_323 Fq5_323 Fq6_323 Fq7_323 Fq11_323 Fq12_323 Fq13_323 Fq14_323 Fq8_323 Fq9_323 Fq10_323 (Ne.symm ne325) (Ne.symm ne326) (Ne.symm ne327) (Ne.symm ne328) nqb1_b2_315 nqb1_b5_315 nqb1_b6_315 nqb2_b5_315 nqb2_b6_315 nqb5_b6_315 g302 gqb1_315 gqb2_315 gqb5_315 gqb6_315 rfl (by decide)) (hb hby at_118) (by rw [hml]; rfl) rfl pd_aIIDIzI rfl rfl (by decide) (by decide) (by decide) (by decide) ?_
      intro v329 T329 L329 X329 hQ329
      obtain ⟨h329, e329⟩ : ∃ z, T329.heap = z := ⟨_, rfl⟩
      rw [e329] at hQ329
      obtain ⟨rfl, Nq329, Kq329, Fq0_329, Fq1_329, Fq2_329, Fq3_329, Fq4_329, Fq5_329, Fq6_329, Fq7_329, Fq8_329, Fq9_329, Fq10_329, Fq11_329, Fq12_329, Fq13_329, Fq14_329⟩ := hQ329
      have N329 := Fr.app N323 Nq329
      have Fq8_329 : Fld Z h329 b301 "com/example/edgewise/edgewise/EdgeSlots" "bound" "I" (.int (3 : Int32)) := Fq8_329
      have Fq9_329 : Fld Z h329 b301 "com/example/edgewise/edgewise/EdgeSlots" "count" "I" (.int (3 : Int32)) := Fq9_329
      have Fq10_329 : Fld Z h329 b301 "com/example/edgewise/edgewise/EdgeSlots" "nextNumber" "J" (.long (3 : Int64)) := Fq10_329
      show Go p.tables e below s _ _ _ (T329.setTop (mkF m 121 #[.val (.int p1), .val (.int p2), .val (.int p3), .val (.int p4), .val (.int p5), .val (.int p6), .val (.int (4 : Int32)), .val (.int v252), .val (.int v253), .val (.int v254), .val (.int v255), .val (.int (1 : Int32)), .val (.ref b301), .unset] [(.int (2 : Int32))]))
      refine g_pop X329 hx hby at_121 (pc' := 122) rfl rfl ?_
      refine g_iload X329 hx hby at_122 (pc' := 124) rfl rfl ?_
      refine g_iconst X329 hx hby at_124 (pc' := 125) rfl (z := (3 : Int32)) rfl ?_
      have hc125 : (3 : Int) < (4 : Int) := by decide
      refine g_icmpNo X329 hx hby at_125 (pc' := 128) (tlt (show (3 : Int32) < (4 : Int32) from Int32.lt_iff_toInt_lt.mpr hc125)).2.2.2 rfl ?_
      refine g_aload X329 hx hby at_128 (pc' := 130) rfl rfl rfl ?_
      refine g_iload X329 hx hby at_130 (pc' := 132) rfl rfl ?_
      refine g_iload X329 hx hby at_132 (pc' := 134) rfl rfl ?_
      refine g_ldcD X329 hx hby hZ hown (wi hw 84 rfl) at_134 (pc' := 137) rfl ?_
      refine g_iconst X329 hx hby at_137 (pc' := 138) rfl (z := (1 : Int32)) rfl ?_
      have f332 := f330.keep Kq329
      refine Go.callV X329 hx hZ (y := (⟨"com/example/edgewise/edgewise/EdgeSlots", "add", "(IIDI)I"⟩ : MethodName)) (z := (⟨"com/example/edgewise/edgewise/EdgeSlots", "add", "(IIDI)I"⟩ : MethodName)) hown (wi hw 40 rfl) (wi hw 41 rfl) (notFace_of_selects (args := #[]) (mvT hZ (wi hw 43 rfl))) (wi hw 43 rfl) (wi hw 42 rfl) (wi hw 3 rfl) (wi hw 44 rfl) (by decide) e329 (a := b301) (argsL := [(.int v255), (.int v255), (.double (4616189618054758400 : UInt64)), (.int (1 : Int32))]) (rest := []) (W := 0) f332 (rm_addB1 l Z a0 hw b301 v255 v255 (4616189618054758400 : UInt64) (1 : Int32) b1_315 b2_315 b3_315 b4_315 b5_315 b6_315 b7_314 (upI (upI (upI (fun _ => (0 : Int32)) 0 v254) 1 v255) 2 v254) (upI (upI (upI (fun _ => (0 : Int32)) 0 v255) 1 v254) 2 v254) (upD (upD (upD (fun _ => (0 : UInt64)) 0 FP.dconst1) 1 (4611686018427387904 : UInt64)) 2 (4613937818241073152 : UInt64)) (upI (upI (upI (fun _ => (0 : Int32)) 0 v254) 1 v255) 2 (0 : Int32)) (3 : Int32) (3 : Int32) (3 : Int64) 3 h329 n0 (Nat.le_trans (Nat.le_trans (Nat.le_trans (Nat.le_trans (Nat.le_trans Z0 E301.1) Kq314.1) Kq315.1) Kq323.1) Kq329.1) f332 Fq0_329 Fq1_329 Fq2_329 Fq3_329 Fq4_329 Fq5_329 Fq6_329 Fq7_329 Fq11_329 Fq12_329 Fq13_329 Fq14_329 Fq8_329 Fq9_329 Fq10_329 (Ne.symm ne325) (Ne.symm ne326) (Ne.symm ne327) (Ne.symm ne328) nqb1_b2_315 nqb1_b5_315 nqb1_b6_315 nqb2_b5_315 nqb2_b6_315 nqb5_b6_315 g302 gqb1_315 gqb2_315 gqb5_315 gqb6_315 rfl (by decide)) (hb hby at_138) (by rw [hml]; rfl) rfl pd_aIIDIzI rfl rfl (by decide) (by decide) (by decide) (by decide) ?_
      intro v331 T331 L331 X331 hQ331
      obtain ⟨h331, e331⟩ : ∃ z, T331.heap = z := ⟨_, rfl⟩
      rw [e331] at hQ331
      obtain ⟨rfl, Nq331, Kq331, Fq0_331, Fq1_331, Fq2_331, Fq3_331, Fq4_331, Fq5_331, Fq6_331, Fq7_331, Fq8_331, Fq9_331, Fq10_331, Fq11_331, Fq12_331, Fq13_331, Fq14_331⟩ := hQ331
      have N331 := Fr.app N329 Nq331
      have Fq8_331 : Fld Z h331 b301 "com/example/edgewise/edgewise/EdgeSlots" "bound" "I" (.int (4 : Int32)) := Fq8_331
      have Fq9_331 : Fld Z h331 b301 "com/example/edgewise/edgewise/EdgeSlots" "count" "I" (.int (4 : Int32)) := Fq9_331
      have Fq10_331 : Fld Z h331 b301 "com/example/edgewise/edgewise/EdgeSlots" "nextNumber" "J" (.long (4 : Int64)) := Fq10_331
      show Go p.tables e below s _ _ _ (T331.setTop (mkF m 141 #[.val (.int p1), .val (.int p2), .val (.int p3), .val (.int p4), .val (.int p5), .val (.int p6), .val (.int (4 : Int32)), .val (.int v252), .val (.int v253), .val (.int v254), .val (.int v255), .val (.int (1 : Int32)), .val (.ref b301), .unset] [(.int (3 : Int32))]))
      refine g_pop X331 hx hby at_141 (pc' := 142) rfl rfl ?_
      have f333 := f332.keep Kq331
      exact J142 (T331, _, h331, (1 : Int32), b301, b1_315, b2_315) ⟨X331.more (by decide) (by decide), e331, N331, (Nat.le_trans (Nat.le_trans (Nat.le_trans (Nat.le_trans (Nat.le_trans (Nat.le_trans Z0 E301.1) Kq314.1) Kq315.1) Kq323.1) Kq329.1) Kq331.1), f333, Fq2_331, Fq3_331, Fq8_331, Fq9_331, Fq11_331, Fq12_331, (show b1_315 ≠ b301 ∧ b2_315 ≠ b301 ∧ b1_315 ≠ b2_315 ∧ n0 ≤ b301 ∧ n0 ≤ b1_315 ∧ n0 ≤ b2_315 from ⟨(Ne.symm ne325), (Ne.symm ne326), nqb1_b2_315, g302, gqb1_315, gqb2_315⟩)⟩
set_option maxRecDepth 65536 in
set_option maxHeartbeats 40000000 in
theorem comes_1 {Post : Tables → Env → Array Value → State → Outcome → State → Prop} (hpost : ∀ tb e args s v u, (limb_1_1.after args s (.returned v) u = true ∧ limb_1_2.after args s (.returned v) u = true) → FrameEnd s (.returned v) u (Jvm.fieldLocs frame_1_writes args s ++ Jvm.arrayLocs frame_1_arrays args s ++ Jvm.staticLocs frame_1_statics s) 40 192 → Post tb e args s (.returned v) u) :
    ArmFor flags0 classFile x code maxLocals ret World_1 tables_1 room_1 Calls_1 rest_1 Pre_1 Post := by
  intro l hfl _ _ p e ha hc hk s m args below hf hA hF happ hP
  obtain ⟨hcalls, hrest, hpre⟩ := hP
  obtain ⟨-, -, -, hnamed, -, -, -, hat⟩ := (Spec.applies_iff hf).mp happ
  obtain ⟨hg, hn⟩ := and_e (Cond.before_iff.mp (show (Jvm.Cond.and given_1 narrow_1).before args s = true from hpre))
  obtain ⟨g0, r0⟩ := and_e hg
  obtain ⟨g1, r1⟩ := and_e r0
  obtain ⟨g2, r2⟩ := and_e r1
  obtain ⟨g3, r3⟩ := and_e r2
  obtain ⟨g4, r4⟩ := and_e r3
  obtain ⟨g5, g6⟩ := and_e r4
  obtain ⟨w0, w1, w2, w3, w4, w5, rfl⟩ : ∃ w0 w1 w2 w3 w4 w5 : Value, args = #[w0, w1, w2, w3, w4, w5] := by
    have hs : args.size = 6 := by simpa [Cond.value, given_1] using g0
    obtain ⟨L⟩ := args
    match L, hs with
    | [w0, w1, w2, w3, w4, w5], _ => exact ⟨w0, w1, w2, w3, w4, w5, rfl⟩
  have hw := fun d (hd : d ∈ tables_1) => atoms_spec (ws := Jvm.Cond.code x code maxLocals ret :: tables_1) hat d (List.mem_cons_of_mem _ hd)
  have hfit : Fit s := fun {y c} hc i hi => by
    obtain ⟨ha, rfl⟩ := Array.getElem?_eq_some_iff.mp hc
    have q := List.all_eq_true.mp ((Array.all_eq_true_iff_forall_mem.mp hF) _ (Array.getElem_mem ha)) i (List.mem_range.mpr hi)
    simpa [Array.getElem?_eq_getElem hi] using q
  obtain ⟨i0, ei0⟩ := is_v g1
  obtain rfl : w0 = (.int i0) := Option.some.inj ei0
  obtain ⟨i1, ei1⟩ := is_v g2
  obtain rfl : w1 = (.int i1) := Option.some.inj ei1
  obtain ⟨i2, ei2⟩ := is_v g3
  obtain rfl : w2 = (.int i2) := Option.some.inj ei2
  obtain ⟨i3, ei3⟩ := is_v g4
  obtain rfl : w3 = (.int i3) := Option.some.inj ei3
  obtain ⟨i4, ei4⟩ := is_v g5
  obtain rfl : w4 = (.int i4) := Option.some.inj ei4
  obtain ⟨i5, ei5⟩ := is_v g6
  obtain rfl : w5 = (.int i5) := Option.some.inj ei5
  obtain ⟨n, o, h1, h2, h3, _, L, rfl, ⟨rfl, N⟩, hq⟩ := rm0 l s _ hw tables_1 i0 i1 i2 i3 i4 i5 s.heap s.heap.size (Nat.le_refl _)  p e ha hc hk s m _ below hf ((Spec.applies_iff_loose hf).mp happ).1 ⟨rfl, State.Warmed39.refl s, rfl⟩ trivial
  refine ⟨n, _, h1, h2, h3, hpost _ _ _ _ _ _ ⟨Cond.after_iff.mpr rfl, Cond.after_iff.mpr (eq_i res_at (Term.int_eval (1)) rfl)⟩ ⟨hq.1, hq.2.1, (hq.2.2.sift fun y hy => Or.inr (N y hy)).mono (by decide) (by decide)⟩⟩
theorem main_1_1 : Claimed_1_1 := comes_1 fun _ _ _ _ _ _ h hF => ⟨h.1, hF⟩
theorem main_1_2 : Claimed_1_2 := comes_1 fun _ _ _ _ _ _ h hF => ⟨h.2, hF⟩
end Jvm.Pilot.@@N@@
namespace Jvm.Pilot.@@N@@
open Jvm Jvm.ClassFile Sem Op Lib Jvm.Free Jvm.Stand Jvm.Pilot.@@N@@.Jvm.D
/-! MADE BY PROGRAM (witnessworld.py) out of the Statement's table words and the real class files: 17 classes; the members and pool entries that the words name. The judged class is class 1, her method 2. -/
namespace start1
open Jvm.ClassFile
def u (s : String) : CpInfo := .utf8 (stringToUtf16 s)
/-- a pool by its gaps: so many unusable entries, then the entry; so many at the end -/
def gap : Nat → List CpInfo → List CpInfo
  | 0, r => r
  | n + 1, r => .unusable :: gap n r
def poolList (es : List (Nat × CpInfo)) (last : Nat) : List CpInfo := es.foldr (fun e r => gap e.1 (e.2 :: r)) (gap last [])
def pool (es : List (Nat × CpInfo)) (last : Nat) : Array CpInfo := ⟨poolList es last⟩
def fileOf (pool : Array CpInfo) (this : Nat) (attrs : Array Attribute := #[]) (ms : Array MethodInfo := #[]) (fl : Nat := 33) (sup : Nat := 0) (ifs : Array Nat := #[]) (fds : Array FieldInfo := #[]) : ClassFile where
  minorVersion := 0
  majorVersion := 65
  constantPool := pool
  accessFlags := fl
  thisClass := this
  superClass := sup
  interfaces := ifs
  fields := fds
  methods := ms
  attributes := attrs
def plain (name : String) (sup : Option ClassId) : Class where
  name := name
  kind := .ordinary
  loader := none
  accessFlags := 33
  super := sup
  interfaces := #[]
  cf := none
  fields := #[]
  methods := #[]
  instanceTypes := #[]
  staticTypes := #[]
  resolved := #[]
  callSites := []
  init := .initialized
  statics := none
  mirror := none

def pool0 : Array CpInfo := pool [(5, u "<init>"), (0, u "()V"), (1, .class_ 10), (1, u "java/lang/Object")] 113

def k0c0 : Code := { maxStack := 0, maxLocals := 1, code := object_method_1_code, exceptionTable := #[], attributes := #[] }
def k0m0 : Method := { name := "<init>", desc := "()V", sig := { parameters := [], returnType := none }, accessFlags := 1, code := some k0c0 }
/-- java/lang/Object -/
def k0 : Class := { plain "java/lang/Object" none with
  accessFlags := 33
  interfaces := #[]
  cf := some (fileOf pool0 8 #[] #[{ accessFlags := 1, nameIndex := 5, descriptorIndex := 6, attributes := #[] }] 33 0 #[] #[])
  fields := #[]
  methods := #[k0m0]
  instanceTypes := #[]
  staticTypes := #[]
  resolved := Array.replicate 124 none
  statics := none }

def pool1 : Array CpInfo := pool [(2, .class_ 4), (1, u "java/lang/Object"), (0, u "<init>"), (0, u "()V"), (0, .integer 2147483647), (0, .class_ 9), (0, u "com/example/edgewise/edgewise/EdgeSlots"), (0, .methodref 8 11), (0, .nameAndType 5 12), (0, u "(Z)V"), (0, .methodref 8 14), (0, .nameAndType 15 16), (0, u "add"), (0, u "(IIDI)I"), (0, .double 4611686018427387904), (1, .double 4613937818241073152), (1, .double 4616189618054758400), (1, .methodref 8 24), (0, .nameAndType 25 26), (0, u "remove"), (0, u "(I)V"), (0, .methodref 28 29), (0, .class_ 30), (0, .nameAndType 31 32), (0, u "com/example/edgewise/edgewise/EdgeSlotsNextLivePinLaw"), (0, u "live"), (0, u "(III)Z"), (0, .methodref 8 34), (0, .nameAndType 35 36), (0, u "nextLive"), (0, u "(I)I"), (3, u "law"), (0, u "(IIIIII)Z")] 2

def k1m0 : Method := { name := "<init>", desc := "()V", sig := { parameters := [], returnType := none }, accessFlags := 2, code := none }
def k1c1 : Code := { maxStack := 2, maxLocals := 3, code := method_2_code, exceptionTable := #[], attributes := #[] }
def k1m1 : Method := { name := "live", desc := "(III)Z", sig := { parameters := [.int, .int, .int], returnType := some .boolean }, accessFlags := 10, code := some k1c1 }
def k1c2 : Code := { maxStack := 6, maxLocals := 14, code := code, exceptionTable := #[], attributes := #[] }
def k1m2 : Method := { name := "law", desc := "(IIIIII)Z", sig := { parameters := [.int, .int, .int, .int, .int, .int], returnType := some .boolean }, accessFlags := 9, code := some k1c2 }
/-- com/example/edgewise/edgewise/EdgeSlotsNextLivePinLaw -/
def k1 : Class := { plain "com/example/edgewise/edgewise/EdgeSlotsNextLivePinLaw" (some 0) with
  accessFlags := 49
  interfaces := #[]
  cf := some (fileOf pool1 28 #[] #[{ accessFlags := 2, nameIndex := 5, descriptorIndex := 6, attributes := #[] }, { accessFlags := 10, nameIndex := 31, descriptorIndex := 32, attributes := #[] }, { accessFlags := 9, nameIndex := 40, descriptorIndex := 41, attributes := #[] }] 49 2 #[] #[])
  fields := #[]
  methods := #[k1m0, k1m1, k1m2]
  instanceTypes := #[]
  staticTypes := #[]
  resolved := Array.replicate 44 none
  statics := none }

def pool2 : Array CpInfo := pool [(1, .methodref 2 3), (0, .class_ 4), (0, .nameAndType 5 6), (0, u "java/lang/Object"), (0, u "<init>"), (0, u "()V"), (0, .fieldref 8 9), (0, .class_ 10), (0, .nameAndType 11 12), (0, u "com/example/edgewise/edgewise/EdgeSlots"), (0, u "sources"), (0, u "[I"), (0, .fieldref 8 14), (0, .nameAndType 15 12), (0, u "targets"), (0, .fieldref 8 17), (0, .nameAndType 18 12), (0, u "sourcePositions"), (0, .fieldref 8 20), (0, .nameAndType 21 12), (0, u "targetPositions"), (0, .fieldref 8 23), (0, .nameAndType 24 25), (0, u "weights"), (0, u "[D"), (0, .fieldref 8 27), (0, .nameAndType 28 12), (0, u "keys"), (0, .fieldref 8 30), (0, .nameAndType 31 32), (0, u "keptNumbers"), (0, u "[J"), (0, .fieldref 8 34), (0, .nameAndType 35 36), (0, u "keyed"), (0, u "Z"), (0, .fieldref 8 38), (0, .nameAndType 39 40), (0, u "bound"), (0, u "I"), (0, .methodref 42 43), (0, .class_ 44), (0, .nameAndType 45 46), (0, u "com/example/edgewise/edgewise/Capacity"), (0, u "next"), (0, u "(I)I"), (0, .methodref 8 48), (0, .nameAndType 49 50), (0, u "resize"), (0, u "(I)V"), (0, .fieldref 8 52), (0, .nameAndType 53 40), (0, u "count"), (0, .fieldref 8 55), (0, .nameAndType 56 57), (0, u "nextNumber"), (0, u "J"), (1, .class_ 61), (1, u "java/util/Arrays"), (25, .methodref 59 88), (0, .nameAndType 89 90), (0, u "copyOf"), (0, u "([II)[I"), (0, .methodref 59 92), (0, .nameAndType 89 93), (0, u "([DI)[D"), (0, u "REMOVED"), (2, u "NO_ENTRY"), (0, u "(Z)V"), (2, u "add"), (0, u "(IIDI)I"), (1, u "remove"), (4, u "nextLive")] 18

def k2c0 : Code := { maxStack := 2, maxLocals := 2, code := prog_12_method_1_code, exceptionTable := #[], attributes := #[] }
def k2m0 : Method := { name := "<init>", desc := "(Z)V", sig := { parameters := [.boolean], returnType := none }, accessFlags := 0, code := some k2c0 }
def k2c1 : Code := { maxStack := 5, maxLocals := 7, code := prog_12_method_2_code, exceptionTable := #[], attributes := #[] }
def k2m1 : Method := { name := "add", desc := "(IIDI)I", sig := { parameters := [.int, .int, .double, .int], returnType := some .int }, accessFlags := 0, code := some k2c1 }
def k2c2 : Code := { maxStack := 3, maxLocals := 2, code := prog_12_method_3_code, exceptionTable := #[], attributes := #[] }
def k2m2 : Method := { name := "remove", desc := "(I)V", sig := { parameters := [.int], returnType := none }, accessFlags := 0, code := some k2c2 }
def k2c3 : Code := { maxStack := 2, maxLocals := 3, code := prog_12_method_8_code, exceptionTable := #[], attributes := #[] }
def k2m3 : Method := { name := "nextLive", desc := "(I)I", sig := { parameters := [.int], returnType := some .int }, accessFlags := 0, code := some k2c3 }
def k2c4 : Code := { maxStack := 3, maxLocals := 2, code := prog_12_method_22_code, exceptionTable := #[], attributes := #[] }
def k2m4 : Method := { name := "resize", desc := "(I)V", sig := { parameters := [.int], returnType := none }, accessFlags := 2, code := some k2c4 }
/-- com/example/edgewise/edgewise/EdgeSlots -/
def k2 : Class := { plain "com/example/edgewise/edgewise/EdgeSlots" (some 0) with
  accessFlags := 48
  interfaces := #[]
  cf := some (fileOf pool2 8 #[] #[{ accessFlags := 0, nameIndex := 5, descriptorIndex := 98, attributes := #[] }, { accessFlags := 0, nameIndex := 101, descriptorIndex := 102, attributes := #[] }, { accessFlags := 0, nameIndex := 104, descriptorIndex := 50, attributes := #[] }, { accessFlags := 0, nameIndex := 109, descriptorIndex := 46, attributes := #[] }, { accessFlags := 2, nameIndex := 49, descriptorIndex := 50, attributes := #[] }] 48 2 #[] #[{ accessFlags := 24, nameIndex := 94, descriptorIndex := 40, attributes := #[] }, { accessFlags := 24, nameIndex := 97, descriptorIndex := 40, attributes := #[] }, { accessFlags := 18, nameIndex := 35, descriptorIndex := 36, attributes := #[] }, { accessFlags := 2, nameIndex := 11, descriptorIndex := 12, attributes := #[] }, { accessFlags := 2, nameIndex := 15, descriptorIndex := 12, attributes := #[] }, { accessFlags := 2, nameIndex := 18, descriptorIndex := 12, attributes := #[] }, { accessFlags := 2, nameIndex := 21, descriptorIndex := 12, attributes := #[] }, { accessFlags := 2, nameIndex := 24, descriptorIndex := 25, attributes := #[] }, { accessFlags := 2, nameIndex := 28, descriptorIndex := 12, attributes := #[] }, { accessFlags := 2, nameIndex := 39, descriptorIndex := 40, attributes := #[] }, { accessFlags := 2, nameIndex := 53, descriptorIndex := 40, attributes := #[] }, { accessFlags := 2, nameIndex := 56, descriptorIndex := 57, attributes := #[] }, { accessFlags := 2, nameIndex := 31, descriptorIndex := 32, attributes := #[] }])
  fields := #[{ name := "REMOVED", type := .int, accessFlags := 24, slot := 0, constantValue := 0 }, { name := "NO_ENTRY", type := .int, accessFlags := 24, slot := 1, constantValue := 0 }, { name := "keyed", type := .boolean, accessFlags := 18, slot := 0, constantValue := 0 }, { name := "sources", type := (.array .int), accessFlags := 2, slot := 1, constantValue := 0 }, { name := "targets", type := (.array .int), accessFlags := 2, slot := 2, constantValue := 0 }, { name := "sourcePositions", type := (.array .int), accessFlags := 2, slot := 3, constantValue := 0 }, { name := "targetPositions", type := (.array .int), accessFlags := 2, slot := 4, constantValue := 0 }, { name := "weights", type := (.array .double), accessFlags := 2, slot := 5, constantValue := 0 }, { name := "keys", type := (.array .int), accessFlags := 2, slot := 6, constantValue := 0 }, { name := "bound", type := .int, accessFlags := 2, slot := 7, constantValue := 0 }, { name := "count", type := .int, accessFlags := 2, slot := 8, constantValue := 0 }, { name := "nextNumber", type := .long, accessFlags := 2, slot := 9, constantValue := 0 }, { name := "keptNumbers", type := (.array .long), accessFlags := 2, slot := 10, constantValue := 0 }]
  methods := #[k2m0, k2m1, k2m2, k2m3, k2m4]
  instanceTypes := #[.boolean, (.array .int), (.array .int), (.array .int), (.array .int), (.array .double), (.array .int), .int, .int, .long, (.array .long)]
  staticTypes := #[.int, .int]
  resolved := Array.replicate 128 none
  statics := none }

def pool3 : Array CpInfo := pool [(4, .class_ 6), (1, u "java/lang/Object"), (0, u "<init>"), (0, u "()V"), (0, .class_ 10), (0, u "com/example/edgewise/edgewise/Capacity"), (0, .integer 2147483639), (7, .long 2147483639), (1, .long 4), (1, .long 2), (1, .methodref 26 27), (0, .class_ 28), (0, .nameAndType 29 30), (0, u "java/lang/Math"), (0, u "max"), (0, u "(JJ)J"), (0, .methodref 26 32), (0, .nameAndType 33 30), (0, u "min"), (0, u "MAX"), (0, u "I"), (1, u "MIN"), (3, u "next"), (0, u "(I)I")] 5

def k3m0 : Method := { name := "<init>", desc := "()V", sig := { parameters := [], returnType := none }, accessFlags := 2, code := none }
def k3c1 : Code := { maxStack := 8, maxLocals := 1, code := prog_6_method_2_code, exceptionTable := #[], attributes := #[] }
def k3m1 : Method := { name := "next", desc := "(I)I", sig := { parameters := [.int], returnType := some .int }, accessFlags := 8, code := some k3c1 }
/-- com/example/edgewise/edgewise/Capacity -/
def k3 : Class := { plain "com/example/edgewise/edgewise/Capacity" (some 0) with
  accessFlags := 48
  interfaces := #[]
  cf := some (fileOf pool3 9 #[] #[{ accessFlags := 2, nameIndex := 7, descriptorIndex := 8, attributes := #[] }, { accessFlags := 8, nameIndex := 41, descriptorIndex := 42, attributes := #[] }] 48 4 #[] #[{ accessFlags := 24, nameIndex := 34, descriptorIndex := 35, attributes := #[] }, { accessFlags := 26, nameIndex := 37, descriptorIndex := 35, attributes := #[] }])
  fields := #[{ name := "MAX", type := .int, accessFlags := 24, slot := 0, constantValue := 0 }, { name := "MIN", type := .int, accessFlags := 26, slot := 1, constantValue := 0 }]
  methods := #[k3m0, k3m1]
  instanceTypes := #[]
  staticTypes := #[.int, .int]
  resolved := Array.replicate 48 none
  statics := none }

def pool4 : Array CpInfo := pool [(1, .class_ 2), (0, u "java/lang/Math"), (1, .class_ 6), (1, u "java/lang/Object"), (0, u "<init>"), (0, u "()V"), (89, .class_ 100), (1, u "java/lang/Math$RandomNumberGeneratorHolder"), (20, u "(JJ)J"), (50, u "negativeZeroFloatBits"), (0, u "J"), (2, u "negativeZeroDoubleBits"), (21, u "max"), (2, u "min"), (43, u "$assertionsDisabled"), (0, u "Z"), (88, u "(II)I"), (2, u "twoToTheDoubleScaleDown"), (0, u "D"), (4, u "twoToTheDoubleScaleUp"), (9, u "E"), (3, u "PI"), (2, u "TAU"), (2, u "DEGREES_TO_RADIANS"), (0, u "RADIANS_TO_DEGREES")] 94

def k4m0 : Method := { name := "<init>", desc := "()V", sig := { parameters := [], returnType := none }, accessFlags := 2, code := none }
def k4c1 : Code := { maxStack := 4, maxLocals := 4, code := jdk_29_method_66_code, exceptionTable := #[], attributes := #[] }
def k4m1 : Method := { name := "max", desc := "(JJ)J", sig := { parameters := [.long, .long], returnType := some .long }, accessFlags := 9, code := some k4c1 }
def k4c2 : Code := { maxStack := 2, maxLocals := 2, code := jdk_29_method_69_code, exceptionTable := #[], attributes := #[] }
def k4m2 : Method := { name := "min", desc := "(II)I", sig := { parameters := [.int, .int], returnType := some .int }, accessFlags := 9, code := some k4c2 }
def k4c3 : Code := { maxStack := 4, maxLocals := 4, code := jdk_29_method_70_code, exceptionTable := #[], attributes := #[] }
def k4m3 : Method := { name := "min", desc := "(JJ)J", sig := { parameters := [.long, .long], returnType := some .long }, accessFlags := 9, code := some k4c3 }
/-- java/lang/Math -/
def k4 : Class := { plain "java/lang/Math" (some 0) with
  accessFlags := 49
  interfaces := #[]
  cf := some (fileOf pool4 1 #[.nestMembers #[98]] #[{ accessFlags := 2, nameIndex := 7, descriptorIndex := 8, attributes := #[] }, { accessFlags := 9, nameIndex := 198, descriptorIndex := 121, attributes := #[] }, { accessFlags := 9, nameIndex := 201, descriptorIndex := 335, attributes := #[] }, { accessFlags := 9, nameIndex := 201, descriptorIndex := 121, attributes := #[] }] 49 4 #[] #[{ accessFlags := 25, nameIndex := 354, descriptorIndex := 339, attributes := #[] }, { accessFlags := 25, nameIndex := 358, descriptorIndex := 339, attributes := #[] }, { accessFlags := 25, nameIndex := 361, descriptorIndex := 339, attributes := #[] }, { accessFlags := 26, nameIndex := 364, descriptorIndex := 339, attributes := #[] }, { accessFlags := 26, nameIndex := 365, descriptorIndex := 339, attributes := #[] }, { accessFlags := 26, nameIndex := 172, descriptorIndex := 173, attributes := #[] }, { accessFlags := 26, nameIndex := 176, descriptorIndex := 173, attributes := #[] }, { accessFlags := 8, nameIndex := 344, descriptorIndex := 339, attributes := #[] }, { accessFlags := 8, nameIndex := 338, descriptorIndex := 339, attributes := #[] }, { accessFlags := 4120, nameIndex := 245, descriptorIndex := 246, attributes := #[] }])
  fields := #[{ name := "E", type := .double, accessFlags := 25, slot := 0, constantValue := 0 }, { name := "PI", type := .double, accessFlags := 25, slot := 1, constantValue := 0 }, { name := "TAU", type := .double, accessFlags := 25, slot := 2, constantValue := 0 }, { name := "DEGREES_TO_RADIANS", type := .double, accessFlags := 26, slot := 3, constantValue := 0 }, { name := "RADIANS_TO_DEGREES", type := .double, accessFlags := 26, slot := 4, constantValue := 0 }, { name := "negativeZeroFloatBits", type := .long, accessFlags := 26, slot := 5, constantValue := 0 }, { name := "negativeZeroDoubleBits", type := .long, accessFlags := 26, slot := 6, constantValue := 0 }, { name := "twoToTheDoubleScaleUp", type := .double, accessFlags := 8, slot := 7, constantValue := 0 }, { name := "twoToTheDoubleScaleDown", type := .double, accessFlags := 8, slot := 8, constantValue := 0 }, { name := "$assertionsDisabled", type := .boolean, accessFlags := 4120, slot := 9, constantValue := 0 }]
  methods := #[k4m0, k4m1, k4m2, k4m3]
  instanceTypes := #[]
  staticTypes := #[.double, .double, .double, .double, .double, .long, .long, .double, .double, .boolean]
  resolved := Array.replicate 460 none
  statics := none }

def pool5 : Array CpInfo := pool [(2, .class_ 4), (1, u "java/lang/Object"), (0, u "<init>"), (0, u "()V"), (7, .class_ 16), (1, u "java/util/Arrays"), (57, .class_ 76), (1, u "java/util/Arrays$NaturalOrder"), (36, .class_ 115), (1, u "java/util/Arrays$LegacyMergeSort"), (1, u "Z"), (32, .methodref 151 152), (0, .class_ 153), (0, .nameAndType 154 155), (0, u "java/lang/System"), (0, u "arraycopy"), (0, u "(Ljava/lang/Object;ILjava/lang/Object;II)V"), (146, u "copyOf"), (1, .methodref 305 306), (0, .class_ 307), (0, .nameAndType 308 309), (0, u "java/lang/Math"), (0, u "min"), (0, u "(II)I"), (65, .class_ 376), (0, u "java/util/Arrays$ArrayList"), (68, u "$assertionsDisabled"), (269, u "MIN_ARRAY_SORT_GRAN"), (0, u "I"), (2, u "INSERTIONSORT_THRESHOLD"), (151, u "([II)[I"), (3, u "([DI)[D"), (99, .class_ 976), (0, u "java/util/Arrays$ArrayItr")] 52

def k5m0 : Method := { name := "<init>", desc := "()V", sig := { parameters := [], returnType := none }, accessFlags := 2, code := none }
def k5c1 : Code := { maxStack := 6, maxLocals := 3, code := jdk_65_method_123_code, exceptionTable := #[], attributes := #[] }
def k5m1 : Method := { name := "copyOf", desc := "([II)[I", sig := { parameters := [(.array .int), .int], returnType := some (.array .int) }, accessFlags := 9, code := some k5c1 }
def k5c2 : Code := { maxStack := 6, maxLocals := 3, code := jdk_65_method_127_code, exceptionTable := #[], attributes := #[] }
def k5m2 : Method := { name := "copyOf", desc := "([DI)[D", sig := { parameters := [(.array .double), .int], returnType := some (.array .double) }, accessFlags := 9, code := some k5c2 }
/-- java/util/Arrays -/
def k5 : Class := { plain "java/util/Arrays" (some 0) with
  accessFlags := 49
  interfaces := #[]
  cf := some (fileOf pool5 14 #[.nestMembers #[975, 375, 113, 74]] #[{ accessFlags := 2, nameIndex := 5, descriptorIndex := 6, attributes := #[] }, { accessFlags := 9, nameIndex := 302, descriptorIndex := 871, attributes := #[] }, { accessFlags := 9, nameIndex := 302, descriptorIndex := 875, attributes := #[] }] 49 2 #[] #[{ accessFlags := 26, nameIndex := 715, descriptorIndex := 716, attributes := #[] }, { accessFlags := 26, nameIndex := 719, descriptorIndex := 716, attributes := #[] }, { accessFlags := 4120, nameIndex := 445, descriptorIndex := 117, attributes := #[] }])
  fields := #[{ name := "MIN_ARRAY_SORT_GRAN", type := .int, accessFlags := 26, slot := 0, constantValue := 0 }, { name := "INSERTIONSORT_THRESHOLD", type := .int, accessFlags := 26, slot := 1, constantValue := 0 }, { name := "$assertionsDisabled", type := .boolean, accessFlags := 4120, slot := 2, constantValue := 0 }]
  methods := #[k5m0, k5m1, k5m2]
  instanceTypes := #[]
  staticTypes := #[.int, .int, .boolean]
  resolved := Array.replicate 1029 none
  statics := none }

def pool6 : Array CpInfo := pool [(2, .class_ 4), (1, u "java/lang/Object"), (0, u "<init>"), (0, u "()V"), (1, .class_ 10), (1, u "java/lang/System"), (0, u "allowSecurityManager"), (0, u "I"), (16, u "cons"), (0, u "Ljava/io/Console;"), (77, .class_ 110), (1, u "java/lang/System$CallersHolder"), (43, u "initialErrStream"), (0, u "Ljava/io/PrintStream;"), (19, u "security"), (0, u "Ljava/lang/SecurityManager;"), (31, .class_ 209), (0, u "java/lang/System$1"), (7, u "props"), (0, u "Ljava/util/Properties;"), (2, u "lineSeparator"), (0, u "Ljava/lang/String;"), (96, .class_ 321), (1, u "java/lang/System$LoggerFinder"), (5, .class_ 328), (0, u "java/lang/System$Logger"), (67, u "err"), (2, u "out"), (91, u "notSupportedJnuEncoding"), (15, u "in"), (17, u "initialIn"), (0, u "Ljava/io/InputStream;"), (35, u "bootLayer"), (0, u "Ljava/lang/ModuleLayer;"), (99, .class_ 664), (0, u "java/lang/System$2"), (9, u "NEVER"), (2, u "MAYBE"), (49, u "arraycopy"), (0, u "(Ljava/lang/Object;ILjava/lang/Object;II)V"), (72, .class_ 802), (0, u "java/lang/System$Logger$Level")] 31

def k6m0 : Method := { name := "<init>", desc := "()V", sig := { parameters := [], returnType := none }, accessFlags := 2, code := none }
def k6m1 : Method := { name := "arraycopy", desc := "(Ljava/lang/Object;ILjava/lang/Object;II)V", sig := { parameters := [(.object "java/lang/Object"), .int, (.object "java/lang/Object"), .int, .int], returnType := none }, accessFlags := 265, code := none }
/-- java/lang/System -/
def k6 : Class := { plain "java/lang/System" (some 0) with
  accessFlags := 49
  interfaces := #[]
  cf := some (fileOf pool6 8 #[.nestMembers #[319, 327, 801, 108, 663, 208]] #[{ accessFlags := 2, nameIndex := 5, descriptorIndex := 6, attributes := #[] }, { accessFlags := 265, nameIndex := 727, descriptorIndex := 728, attributes := #[] }] 49 2 #[] #[{ accessFlags := 25, nameIndex := 507, descriptorIndex := 526, attributes := #[] }, { accessFlags := 25, nameIndex := 399, descriptorIndex := 155, attributes := #[] }, { accessFlags := 25, nameIndex := 396, descriptorIndex := 155, attributes := #[] }, { accessFlags := 10, nameIndex := 525, descriptorIndex := 526, attributes := #[] }, { accessFlags := 26, nameIndex := 674, descriptorIndex := 12, attributes := #[] }, { accessFlags := 26, nameIndex := 677, descriptorIndex := 12, attributes := #[] }, { accessFlags := 10, nameIndex := 11, descriptorIndex := 12, attributes := #[] }, { accessFlags := 74, nameIndex := 175, descriptorIndex := 176, attributes := #[] }, { accessFlags := 10, nameIndex := 491, descriptorIndex := 222, attributes := #[] }, { accessFlags := 74, nameIndex := 29, descriptorIndex := 30, attributes := #[] }, { accessFlags := 74, nameIndex := 154, descriptorIndex := 155, attributes := #[] }, { accessFlags := 10, nameIndex := 217, descriptorIndex := 218, attributes := #[] }, { accessFlags := 10, nameIndex := 221, descriptorIndex := 222, attributes := #[] }, { accessFlags := 8, nameIndex := 562, descriptorIndex := 563, attributes := #[] }])
  fields := #[{ name := "in", type := (.object "java/io/InputStream"), accessFlags := 25, slot := 0, constantValue := 0 }, { name := "out", type := (.object "java/io/PrintStream"), accessFlags := 25, slot := 1, constantValue := 0 }, { name := "err", type := (.object "java/io/PrintStream"), accessFlags := 25, slot := 2, constantValue := 0 }, { name := "initialIn", type := (.object "java/io/InputStream"), accessFlags := 10, slot := 3, constantValue := 0 }, { name := "NEVER", type := .int, accessFlags := 26, slot := 4, constantValue := 0 }, { name := "MAYBE", type := .int, accessFlags := 26, slot := 5, constantValue := 0 }, { name := "allowSecurityManager", type := .int, accessFlags := 10, slot := 6, constantValue := 0 }, { name := "security", type := (.object "java/lang/SecurityManager"), accessFlags := 74, slot := 7, constantValue := 0 }, { name := "notSupportedJnuEncoding", type := (.object "java/lang/String"), accessFlags := 10, slot := 8, constantValue := 0 }, { name := "cons", type := (.object "java/io/Console"), accessFlags := 74, slot := 9, constantValue := 0 }, { name := "initialErrStream", type := (.object "java/io/PrintStream"), accessFlags := 74, slot := 10, constantValue := 0 }, { name := "props", type := (.object "java/util/Properties"), accessFlags := 10, slot := 11, constantValue := 0 }, { name := "lineSeparator", type := (.object "java/lang/String"), accessFlags := 10, slot := 12, constantValue := 0 }, { name := "bootLayer", type := (.object "java/lang/ModuleLayer"), accessFlags := 8, slot := 13, constantValue := 0 }]
  methods := #[k6m0, k6m1]
  instanceTypes := #[]
  staticTypes := #[(.object "java/io/InputStream"), (.object "java/io/PrintStream"), (.object "java/io/PrintStream"), (.object "java/io/InputStream"), .int, .int, .int, (.object "java/lang/SecurityManager"), (.object "java/lang/String"), (.object "java/io/Console"), (.object "java/io/PrintStream"), (.object "java/util/Properties"), (.object "java/lang/String"), (.object "java/lang/ModuleLayer")]
  resolved := Array.replicate 834 none
  statics := none }

def pool7 : Array CpInfo := pool [(1, u "java/lang/Cloneable"), (0, .class_ 1), (0, u "java/lang/Object"), (0, .class_ 3)] 3

/-- java/lang/Cloneable -/
def k7 : Class := { plain "java/lang/Cloneable" (some 0) with
  accessFlags := 1537
  interfaces := #[]
  cf := some (fileOf pool7 2 #[] #[] 1537 4 #[] #[])
  fields := #[]
  methods := #[]
  instanceTypes := #[]
  staticTypes := #[]
  resolved := Array.replicate 8 none
  statics := none }

def pool8 : Array CpInfo := pool [(1, u "java/io/Serializable"), (0, .class_ 1), (0, u "java/lang/Object"), (0, .class_ 3)] 3

/-- java/io/Serializable -/
def k8 : Class := { plain "java/io/Serializable" (some 0) with
  accessFlags := 1537
  interfaces := #[]
  cf := some (fileOf pool8 2 #[] #[] 1537 4 #[] #[])
  fields := #[]
  methods := #[]
  instanceTypes := #[]
  staticTypes := #[]
  resolved := Array.replicate 8 none
  statics := none }

/-- the primitive byte -/
def k9 : Class := { plain "byte" none with kind := .primitive 'B', accessFlags := 0x411 }
/-- [B -/
def k10 : Class := { plain "[B" (some 0) with kind := .array 9 .byte, interfaces := #[7, 8], accessFlags := 1041 }

/-- the primitive double -/
def k11 : Class := { plain "double" none with kind := .primitive 'D', accessFlags := 0x411 }
/-- [D -/
def k12 : Class := { plain "[D" (some 0) with kind := .array 11 .double, interfaces := #[7, 8], accessFlags := 1041 }

/-- the primitive int -/
def k13 : Class := { plain "int" none with kind := .primitive 'I', accessFlags := 0x411 }
/-- [I -/
def k14 : Class := { plain "[I" (some 0) with kind := .array 13 .int, interfaces := #[7, 8], accessFlags := 1041 }

/-- the primitive long -/
def k15 : Class := { plain "long" none with kind := .primitive 'J', accessFlags := 0x411 }
/-- [J -/
def k16 : Class := { plain "[J" (some 0) with kind := .array 15 .long, interfaces := #[7, 8], accessFlags := 1041 }

def heap : Heap := #[]
def classes : Array Class := #[k0, k1, k2, k3, k4, k5, k6, k7, k8, k9, k10, k11, k12, k13, k14, k15, k16]
def interned : List (Array UInt16 × Addr) := []
def slotsUsed : Nat := 0
def theMethod : MethodId := ⟨1, 2⟩
def args0 : Array Value := #[.int 5, .int 7, .int 9, .int 3, .int 1, .int 1]
def aboutOver (below : List Frame) : State where
  vm := { classes := classes, interned := interned.toArray }
  heap := heap
  slotsUsed := slotsUsed
  threads := #[{ frames := .invoking theMethod args0 :: below }]
def below0 : List Frame := [.native { method := ⟨0, 0⟩, args := #[] }]
def about1 : State := aboutOver below0
def p0 : Program := .bare "" "" ""
def e0 : Env := launch0.env 0 0 0
theorem w_frames : about1.frames = Frame.invoking theMethod args0 :: below0 := rfl
set_option maxRecDepth 65536 in
theorem w_args : argsFit about1.vm theMethod args0 = true := by decide +kernel
set_option maxRecDepth 65536 in
theorem w_heap : heapFits about1 = true := by decide +kernel
set_option maxRecDepth 65536 in
theorem w_runnable : about1.curStatus? = some .runnable := by decide +kernel
set_option maxRecDepth 65536 in
theorem w_alone : about1.alone = true := by decide +kernel
set_option maxRecDepth 65536 in
theorem w_named : about1.methodNamed? x = some theMethod := by decide +kernel
set_option maxRecDepth 65536 in
theorem w_hears : about1.hears theMethod below0 = true := by decide +kernel
set_option maxRecDepth 65536 in
theorem w_ripe : about1.ripe theMethod args0 below0 = true := by decide +kernel
theorem w_running : about1.status = .running := rfl
set_option maxRecDepth 65536 in
theorem w_room : about1.hasRoom e0.platform room_1 = true :=
  launch0.hasRoom_least _ room_1 (by decide +kernel) (by decide +kernel) (by decide +kernel) (by decide +kernel) (by decide +kernel) (by decide +kernel)
theorem allAtoms_all (ts : List Jvm.Cond) (a : Array Jvm.Value) (st : Jvm.State) : (allAtoms ts).before a st = ts.all (fun c => c.before a st) := by
  induction ts with
  | nil => rfl
  | cons c t ih =>
    show (Jvm.Cond.and c (allAtoms t)).before a st = _
    rw [Jvm.Cond.before_and, ih, List.all_cons]
def words1 : List Jvm.Cond := Jvm.Cond.code x code maxLocals ret :: tables_1
/-- a 'code' word, met by the world's own term for the bytes: nothing is compared byte by byte -/
theorem code_word {y : MethodName} {bytes : ByteArray} {mx : Nat} {rt : Option FieldType} {a : Array Value} {s : State} {m : MethodId} {meth : Method} {c : Code} (h1 : s.methodNamed? y = some m) (h2 : s.vm.method? m = some meth) (h3 : meth.code = some c) (h4 : c.code = bytes)
    (h5 : (c.maxLocals == mx && c.exceptionTable.isEmpty && decide (c.maxStack ≤ mostOperands) && decide (meth.sig.returnType = rt) && !meth.locks && decide (parseMethodDescriptor y.desc = some meth.sig)) = true) : (Jvm.Cond.code y bytes mx rt).before a s = true := by
  simp only [Bool.and_eq_true, beq_iff_eq, Bool.not_eq_true', decide_eq_true_eq] at h5
  obtain ⟨⟨⟨⟨⟨g1, g2⟩, g3⟩, g4⟩, g5⟩, g6⟩ := h5
  simp [Cond.before, Cond.holds, Cond.value, h1, h2, h3, h4, g1, g2, g3, g4, g5, g6]
def isCode : Jvm.Cond → Bool
  | .code _ _ _ _ => true
  | _ => false
theorem all_split {L : List Jvm.Cond} {P : Jvm.Cond → Bool} (h1 : L.all (fun c => isCode c || P c) = true) (h2 : ∀ c ∈ L.filter isCode, P c = true) : L.all P = true := by
  refine List.all_eq_true.mpr fun c hc => ?_
  have h := List.all_eq_true.mp h1 c hc
  rcases Bool.eq_false_or_eq_true (isCode c) with hi | hi
  · exact h2 c (List.mem_filter.mpr ⟨hc, hi⟩)
  · simpa [hi] using h
set_option maxRecDepth 65536 in
theorem w_c0 : (Jvm.Cond.code x code maxLocals ret).before args0 about1 = true := code_word (m := ⟨1, 2⟩) (meth := k1m2) (c := k1c2) (by decide +kernel) rfl rfl rfl (by decide +kernel)
set_option maxRecDepth 65536 in
theorem w_c1 : (Jvm.Cond.code ({ cls := "com/example/edgewise/edgewise/EdgeSlots", name := "<init>", desc := "(Z)V" } : Jvm.MethodName) prog_12_method_1_code (2 : Nat) (Option.none : Option Jvm.ClassFile.FieldType)).before args0 about1 = true := code_word (m := ⟨2, 0⟩) (meth := k2m0) (c := k2c0) (by decide +kernel) rfl rfl rfl (by decide +kernel)
set_option maxRecDepth 65536 in
theorem w_c2 : (Jvm.Cond.code ({ cls := "java/lang/Object", name := "<init>", desc := "()V" } : Jvm.MethodName) object_method_1_code (1 : Nat) (Option.none : Option Jvm.ClassFile.FieldType)).before args0 about1 = true := code_word (m := ⟨0, 0⟩) (meth := k0m0) (c := k0c0) (by decide +kernel) rfl rfl rfl (by decide +kernel)
set_option maxRecDepth 65536 in
theorem w_c3 : (Jvm.Cond.code ({ cls := "com/example/edgewise/edgewise/EdgeSlotsNextLivePinLaw", name := "live", desc := "(III)Z" } : Jvm.MethodName) method_2_code (3 : Nat) (Option.some Jvm.ClassFile.FieldType.boolean)).before args0 about1 = true := code_word (m := ⟨1, 1⟩) (meth := k1m1) (c := k1c1) (by decide +kernel) rfl rfl rfl (by decide +kernel)
set_option maxRecDepth 65536 in
theorem w_c4 : (Jvm.Cond.code ({ cls := "com/example/edgewise/edgewise/EdgeSlots", name := "nextLive", desc := "(I)I" } : Jvm.MethodName) prog_12_method_8_code (3 : Nat) (Option.some Jvm.ClassFile.FieldType.int)).before args0 about1 = true := code_word (m := ⟨2, 3⟩) (meth := k2m3) (c := k2c3) (by decide +kernel) rfl rfl rfl (by decide +kernel)
set_option maxRecDepth 65536 in
theorem w_c5 : (Jvm.Cond.code ({ cls := "com/example/edgewise/edgewise/EdgeSlots", name := "add", desc := "(IIDI)I" } : Jvm.MethodName) prog_12_method_2_code (7 : Nat) (Option.some Jvm.ClassFile.FieldType.int)).before args0 about1 = true := code_word (m := ⟨2, 1⟩) (meth := k2m1) (c := k2c1) (by decide +kernel) rfl rfl rfl (by decide +kernel)
set_option maxRecDepth 65536 in
theorem w_c6 : (Jvm.Cond.code ({ cls := "com/example/edgewise/edgewise/Capacity", name := "next", desc := "(I)I" } : Jvm.MethodName) prog_6_method_2_code (1 : Nat) (Option.some Jvm.ClassFile.FieldType.int)).before args0 about1 = true := code_word (m := ⟨3, 1⟩) (meth := k3m1) (c := k3c1) (by decide +kernel) rfl rfl rfl (by decide +kernel)
set_option maxRecDepth 65536 in
theorem w_c7 : (Jvm.Cond.code ({ cls := "java/lang/Math", name := "max", desc := "(JJ)J" } : Jvm.MethodName) jdk_29_method_66_code (4 : Nat) (Option.some Jvm.ClassFile.FieldType.long)).before args0 about1 = true := code_word (m := ⟨4, 1⟩) (meth := k4m1) (c := k4c1) (by decide +kernel) rfl rfl rfl (by decide +kernel)
set_option maxRecDepth 65536 in
theorem w_c8 : (Jvm.Cond.code ({ cls := "java/lang/Math", name := "min", desc := "(JJ)J" } : Jvm.MethodName) jdk_29_method_70_code (4 : Nat) (Option.some Jvm.ClassFile.FieldType.long)).before args0 about1 = true := code_word (m := ⟨4, 3⟩) (meth := k4m3) (c := k4c3) (by decide +kernel) rfl rfl rfl (by decide +kernel)
set_option maxRecDepth 65536 in
theorem w_c9 : (Jvm.Cond.code ({ cls := "com/example/edgewise/edgewise/EdgeSlots", name := "resize", desc := "(I)V" } : Jvm.MethodName) prog_12_method_22_code (2 : Nat) (Option.none : Option Jvm.ClassFile.FieldType)).before args0 about1 = true := code_word (m := ⟨2, 4⟩) (meth := k2m4) (c := k2c4) (by decide +kernel) rfl rfl rfl (by decide +kernel)
set_option maxRecDepth 65536 in
theorem w_c10 : (Jvm.Cond.code ({ cls := "java/util/Arrays", name := "copyOf", desc := "([II)[I" } : Jvm.MethodName) jdk_65_method_123_code (3 : Nat) (Option.some (Jvm.ClassFile.FieldType.array Jvm.ClassFile.FieldType.int))).before args0 about1 = true := code_word (m := ⟨5, 1⟩) (meth := k5m1) (c := k5c1) (by decide +kernel) rfl rfl rfl (by decide +kernel)
set_option maxRecDepth 65536 in
theorem w_c11 : (Jvm.Cond.code ({ cls := "java/lang/Math", name := "min", desc := "(II)I" } : Jvm.MethodName) jdk_29_method_69_code (2 : Nat) (Option.some Jvm.ClassFile.FieldType.int)).before args0 about1 = true := code_word (m := ⟨4, 2⟩) (meth := k4m2) (c := k4c2) (by decide +kernel) rfl rfl rfl (by decide +kernel)
set_option maxRecDepth 65536 in
theorem w_c12 : (Jvm.Cond.code ({ cls := "java/util/Arrays", name := "copyOf", desc := "([DI)[D" } : Jvm.MethodName) jdk_65_method_127_code (3 : Nat) (Option.some (Jvm.ClassFile.FieldType.array Jvm.ClassFile.FieldType.double))).before args0 about1 = true := code_word (m := ⟨5, 2⟩) (meth := k5m2) (c := k5c2) (by decide +kernel) rfl rfl rfl (by decide +kernel)
set_option maxRecDepth 65536 in
theorem w_c13 : (Jvm.Cond.code ({ cls := "com/example/edgewise/edgewise/EdgeSlots", name := "remove", desc := "(I)V" } : Jvm.MethodName) prog_12_method_3_code (2 : Nat) (Option.none : Option Jvm.ClassFile.FieldType)).before args0 about1 = true := code_word (m := ⟨2, 2⟩) (meth := k2m2) (c := k2c2) (by decide +kernel) rfl rfl rfl (by decide +kernel)
def codes1 : List Jvm.Cond := [Jvm.Cond.code x code maxLocals ret, Jvm.Cond.code ({ cls := "com/example/edgewise/edgewise/EdgeSlots", name := "<init>", desc := "(Z)V" } : Jvm.MethodName) prog_12_method_1_code (2 : Nat) (Option.none : Option Jvm.ClassFile.FieldType), Jvm.Cond.code ({ cls := "java/lang/Object", name := "<init>", desc := "()V" } : Jvm.MethodName) object_method_1_code (1 : Nat) (Option.none : Option Jvm.ClassFile.FieldType), Jvm.Cond.code ({ cls := "com/example/edgewise/edgewise/EdgeSlotsNextLivePinLaw", name := "live", desc := "(III)Z" } : Jvm.MethodName) method_2_code (3 : Nat) (Option.some Jvm.ClassFile.FieldType.boolean), Jvm.Cond.code ({ cls := "com/example/edgewise/edgewise/EdgeSlots", name := "nextLive", desc := "(I)I" } : Jvm.MethodName) prog_12_method_8_code (3 : Nat) (Option.some Jvm.ClassFile.FieldType.int), Jvm.Cond.code ({ cls := "com/example/edgewise/edgewise/EdgeSlots", name := "add", desc := "(IIDI)I" } : Jvm.MethodName) prog_12_method_2_code (7 : Nat) (Option.some Jvm.ClassFile.FieldType.int), Jvm.Cond.code ({ cls := "com/example/edgewise/edgewise/Capacity", name := "next", desc := "(I)I" } : Jvm.MethodName) prog_6_method_2_code (1 : Nat) (Option.some Jvm.ClassFile.FieldType.int), Jvm.Cond.code ({ cls := "java/lang/Math", name := "max", desc := "(JJ)J" } : Jvm.MethodName) jdk_29_method_66_code (4 : Nat) (Option.some Jvm.ClassFile.FieldType.long), Jvm.Cond.code ({ cls := "java/lang/Math", name := "min", desc := "(JJ)J" } : Jvm.MethodName) jdk_29_method_70_code (4 : Nat) (Option.some Jvm.ClassFile.FieldType.long), Jvm.Cond.code ({ cls := "com/example/edgewise/edgewise/EdgeSlots", name := "resize", desc := "(I)V" } : Jvm.MethodName) prog_12_method_22_code (2 : Nat) (Option.none : Option Jvm.ClassFile.FieldType), Jvm.Cond.code ({ cls := "java/util/Arrays", name := "copyOf", desc := "([II)[I" } : Jvm.MethodName) jdk_65_method_123_code (3 : Nat) (Option.some (Jvm.ClassFile.FieldType.array Jvm.ClassFile.FieldType.int)), Jvm.Cond.code ({ cls := "java/lang/Math", name := "min", desc := "(II)I" } : Jvm.MethodName) jdk_29_method_69_code (2 : Nat) (Option.some Jvm.ClassFile.FieldType.int), Jvm.Cond.code ({ cls := "java/util/Arrays", name := "copyOf", desc := "([DI)[D" } : Jvm.MethodName) jdk_65_method_127_code (3 : Nat) (Option.some (Jvm.ClassFile.FieldType.array Jvm.ClassFile.FieldType.double)), Jvm.Cond.code ({ cls := "com/example/edgewise/edgewise/EdgeSlots", name := "remove", desc := "(I)V" } : Jvm.MethodName) prog_12_method_3_code (2 : Nat) (Option.none : Option Jvm.ClassFile.FieldType)]
set_option maxRecDepth 65536 in
theorem codes_eq : words1.filter isCode = codes1 := rfl
theorem w_codes : ∀ c ∈ words1.filter isCode, c.before args0 about1 = true := by
  rw [codes_eq]
  intro c hc
  simp only [codes1, List.mem_cons, List.not_mem_nil, or_false] at hc
  rcases hc with rfl | rfl | rfl | rfl | rfl | rfl | rfl | rfl | rfl | rfl | rfl | rfl | rfl | rfl
  · exact w_c0
  · exact w_c1
  · exact w_c2
  · exact w_c3
  · exact w_c4
  · exact w_c5
  · exact w_c6
  · exact w_c7
  · exact w_c8
  · exact w_c9
  · exact w_c10
  · exact w_c11
  · exact w_c12
  · exact w_c13
set_option maxRecDepth 65536 in
theorem w_t1 : (words1.take 24).all (fun c => isCode c || c.before args0 about1) = true := by decide +kernel
set_option maxRecDepth 65536 in
theorem w_t2 : ((words1.drop 24).take 24).all (fun c => isCode c || c.before args0 about1) = true := by decide +kernel
set_option maxRecDepth 65536 in
theorem w_t3 : (((words1.drop 24).drop 24).take 24).all (fun c => isCode c || c.before args0 about1) = true := by decide +kernel
set_option maxRecDepth 65536 in
theorem w_t4 : (((words1.drop 24).drop 24).drop 24).all (fun c => isCode c || c.before args0 about1) = true := by decide +kernel
theorem w_tables : (allAtoms (Jvm.Cond.code x code maxLocals ret :: tables_1)).before args0 about1 = true := by
  rw [allAtoms_all]
  show words1.all (fun c => c.before args0 about1) = true
  refine all_split ?_ w_codes
  rw [← List.take_append_drop 24 words1, List.all_append, w_t1, ← List.take_append_drop 24 (words1.drop 24), List.all_append, w_t2, ← List.take_append_drop 24 ((words1.drop 24).drop 24), List.all_append, w_t3, w_t4]
  rfl
set_option maxRecDepth 65536 in
theorem w_case : (Jvm.Cond.and given_1 narrow_1).before args0 about1 = true := by decide +kernel
theorem w_applies : (headSpec (Jvm.Cond.code x code maxLocals ret :: tables_1) room_1).applies x e0.platform about1 = true :=
  (Spec.applies_iff w_frames).mpr ⟨w_running, w_runnable, w_alone, w_named, w_hears, w_ripe, w_room, w_tables⟩
theorem atStart : AtStart classFile x code maxLocals ret World_1 tables_1 room_1 Calls_1 rest_1 Pre_1 launch0 p0 e0 about1 theMethod args0 below0 :=
  ⟨lists_1, trivial, launch0.admits_env _ _ _, launch0.least_env, fairChoices_fair.cas, fairChoices_fair.clock, w_frames, w_args, w_heap, w_applies, trivial, trivial, w_case⟩
end start1
theorem witness_1 : WitnessClaimed_1 := ⟨start1.p0, start1.e0, start1.about1, start1.theMethod, start1.args0, start1.below0, start1.atStart⟩
end Jvm.Pilot.@@N@@
