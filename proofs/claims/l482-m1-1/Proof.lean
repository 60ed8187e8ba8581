import JvmDerived
import JvmDerived.Pilot.@@N@@Statement
import JvmDerived.Pilot.@@N@@Code
set_option linter.unusedVariables false
set_option linter.unusedSimpArgs false
namespace Jvm.OwnKit
open Sem ClassFile Op Lib Jvm.Stand Jvm.Free Jvm.LawKit Jvm.RoadKit
theorem irem_mod (x y : Int32) : x - x / y * y = x % y := by
  have hm : (x % y).toInt = x.toInt - x.toInt.tdiv y.toInt * y.toInt := by
    rw [Int32.toInt_mod, Int.tmod_def, Int.mul_comm]
  have hb := Int32.toInt_lt (x % y)
  have hl := Int32.le_toInt (x % y)
  have e : (x - x / y * y).toInt = (x % y).toInt.bmod (2 ^ 32) := by
    rw [hm, Int32.toInt_sub, Int32.toInt_mul, Int32.toInt_div, Int.sub_bmod_bmod, Int.sub_eq_add_neg, Int.sub_eq_add_neg]
    rw [← Int.add_bmod_bmod, ← Int.add_bmod_bmod (y := -(x.toInt.tdiv y.toInt * y.toInt))]
    congr 2
    rw [← Int.neg_mul, ← Int.neg_mul]
    rw [← Int.bmod_mul_bmod, Int.bmod_neg_bmod, Int.bmod_mul_bmod]
  apply Int32.toInt_inj.mp
  rw [e]
  exact Int.bmod_eq_of_le_mul_two (by omega) (by omega)
/-- what a body's end says -/
def Done (s : State) (below : List Frame) (Q : Option Value → Heap → List Loc → Prop) (C S : Nat) (t : State) (o : Outcome) : Prop :=
  t.status = .running ∧ Ended t below o ∧ ∃ v L, o = .returned v ∧ Q v t.heap L ∧ FrameEnd s o t L C S
/-- from here the run ends as asked -/
def Go (tb : Tables) (e : Env) (below : List Frame) (s : State) (Q : Option Value → Heap → List Loc → Prop) (C S : Nat) (A : State) : Prop :=
  ∃ t o, Steps tb e below A t ∧ Done s below Q C S t o
theorem Go.of {tb : Tables} {e : Env} {below : List Frame} {s : State} {Q : Option Value → Heap → List Loc → Prop} {C S : Nat} {A B : State}
    (g : ∀ t, Steps tb e below B t → Steps tb e below A t) (h : Go tb e below s Q C S B) : Go tb e below s Q C S A := by
  obtain ⟨t, o, h1, h2⟩ := h
  exact ⟨t, o, g t h1, h2⟩
theorem Go.join {tb : Tables} {e : Env} {below : List Frame} {s : State} {Q : Option Value → Heap → List Loc → Prop} {C S : Nat} {A : State} {α : Type} {P : α → Prop} {F : α → State}
    (h1 : ∀ x, P x → Go tb e below s Q C S (F x)) (h2 : (∀ x, P x → Go tb e below s Q C S (F x)) → Go tb e below s Q C S A) : Go tb e below s Q C S A := h2 h1
theorem Go.loop {tb : Tables} {e : Env} {below : List Frame} {s : State} {Q : Option Value → Heap → List Loc → Prop} {C S : Nat} {α : Type} {P : Nat → α → Prop} {F : α → State}
    (h : ∀ k x, P k x → (∀ j y, j < k → P j y → Go tb e below s Q C S (F y)) → Go tb e below s Q C S (F x)) : ∀ k x, P k x → Go tb e below s Q C S (F x) := by
  intro k
  induction k using Nat.strongRecOn with
  | ind k ih => exact fun x hp => h k x hp fun j y hj hy => ih j hj y hy
section Ret
variable {p : Program} {l : Launch} {e : Env} {R : Room} {s : State} {m : MethodId} {args : Array Value} {below : List Frame} {meth : Method} {c : Code} {T : State} {locs : List Loc} {cells slots : Nat} {Q : Option Value → Heap → List Loc → Prop} {C S : Nat}
theorem Go.retV (X : Stand p l e R s m args below meth c T locs cells slots) (hx : p.tables.exec = Jvm.exec) (hlk : meth.locks = false) {pc : Nat} {Ls : Array Slot} {st : List Value} (hret : meth.sig.returnType = none)
    (hd : decode c.code pc = .ok (.return_, 1)) (hs : st = []) (hc : cells ≤ C) (hn : slots ≤ S) (hq : Q none T.heap locs) : Go p.tables e below s Q C S (T.setTop (mkF m pc Ls st)) := by
  subst hs
  obtain ⟨fs, hr, hrun, hended, hW, hsame⟩ := X.leave (v := none) (fun _ => rfl)
  exact ⟨_, _, X.returnOut hx hret hd hr, hrun, hended, _, _, rfl, hq, ⟨_, rfl⟩, hW, hsame.mono hc hn⟩
theorem Go.retW (X : Stand p l e R s m args below meth c T locs cells slots) (hx : p.tables.exec = Jvm.exec) (hlk : meth.locks = false) {pc : Nat} {Ls : Array Slot} {w : Value} {t : FieldType} {i : Instr} {rest : List Value}
    (hret : meth.sig.returnType = some t) (hn : narrow t w = w)
    (hi : (i = .ireturn ∧ (t = .int ∨ t = .boolean ∨ t = .byte ∨ t = .char ∨ t = .short) ∧ ∃ z, w = .int z) ∨ (i = .lreturn ∧ t = .long ∧ ∃ z, w = .long z) ∨ (i = .dreturn ∧ t = .double ∧ ∃ z, w = .double z) ∨ (i = .freturn ∧ t = .float ∧ ∃ z, w = .float z) ∨ (i = .areturn ∧ t.isReference = true ∧ w.isRef = true))
    (hd : decode c.code pc = .ok (i, 1)) (hc : cells ≤ C) (hsl : slots ≤ S) (hq : Q (some w) T.heap locs) : Go p.tables e below s Q C S (T.setTop (mkF m pc Ls (w :: rest))) := by
  obtain ⟨fs, hr, hrun, hended, hW, hsame⟩ := X.leave (v := some w) (fun h => by rw [hret] at h; cases h)
  exact ⟨_, _, retOut X hx hret hn hi hd hr, hrun, hended, _, _, rfl, hq, ⟨_, rfl⟩, hW, hsame.mono hc hsl⟩
theorem Go.retI (X : Stand p l e R s m args below meth c T locs cells slots) (hx : p.tables.exec = Jvm.exec) (hlk : meth.locks = false) {pc : Nat} {Ls : Array Slot} {z : Int32} {rest : List Value}
    (hret : meth.sig.returnType = some .int) (hd : decode c.code pc = .ok (.ireturn, 1)) (hc : cells ≤ C) (hsl : slots ≤ S) (hq : Q (some (.int z)) T.heap locs) : Go p.tables e below s Q C S (T.setTop (mkF m pc Ls (.int z :: rest))) :=
  Go.retW X hx hlk hret rfl (Or.inl ⟨rfl, Or.inl rfl, _, rfl⟩) hd hc hsl hq
theorem Go.retZ (X : Stand p l e R s m args below meth c T locs cells slots) (hx : p.tables.exec = Jvm.exec) (hlk : meth.locks = false) {pc : Nat} {Ls : Array Slot} {z : Int32} {rest : List Value} {t : FieldType}
    (hret : meth.sig.returnType = some t) (ht : t = .boolean ∨ t = .byte ∨ t = .char ∨ t = .short) (hd : decode c.code pc = .ok (.ireturn, 1)) (hc : cells ≤ C) (hsl : slots ≤ S) (hq : Q (some (.int (nar t z))) T.heap locs) : Go p.tables e below s Q C S (T.setTop (mkF m pc Ls (.int z :: rest))) := by
  obtain ⟨fs, hr, hrun, hended, hW, hsame⟩ := X.leave (v := some (.int (nar t z))) (fun h => by rw [hret] at h; cases h)
  exact ⟨_, _, retN X hx hret ht hd hr, hrun, hended, _, _, rfl, hq, ⟨_, rfl⟩, hW, hsame.mono hc hsl⟩
theorem Go.retL (X : Stand p l e R s m args below meth c T locs cells slots) (hx : p.tables.exec = Jvm.exec) (hlk : meth.locks = false) {pc : Nat} {Ls : Array Slot} {z : Int64} {rest : List Value}
    (hret : meth.sig.returnType = some .long) (hd : decode c.code pc = .ok (.lreturn, 1)) (hc : cells ≤ C) (hsl : slots ≤ S) (hq : Q (some (.long z)) T.heap locs) : Go p.tables e below s Q C S (T.setTop (mkF m pc Ls (.long z :: rest))) :=
  Go.retW X hx hlk hret rfl (Or.inr (Or.inl ⟨rfl, rfl, _, rfl⟩)) hd hc hsl hq
theorem Go.retA (X : Stand p l e R s m args below meth c T locs cells slots) (hx : p.tables.exec = Jvm.exec) (hlk : meth.locks = false) {pc : Nat} {Ls : Array Slot} {w : Value} {rest : List Value} {t : FieldType}
    (hret : meth.sig.returnType = some t) (ht : t.isReference = true) (hw : w.isRef = true) (hd : decode c.code pc = .ok (.areturn, 1)) (hc : cells ≤ C) (hsl : slots ≤ S) (hq : Q (some w) T.heap locs) : Go p.tables e below s Q C S (T.setTop (mkF m pc Ls (w :: rest))) :=
  Go.retW X hx hlk hret (by cases t <;> first | rfl | (simp [FieldType.isReference] at ht)) (Or.inr (Or.inr (Or.inr (Or.inr ⟨rfl, ht, hw⟩)))) hd hc hsl hq
end Ret
/-- the contract of a body, by its walk -/
theorem meet {l : Launch} {Z : State} {y : MethodName} {bytes : ByteArray} {maxL : Nat} {ret : Option FieldType} {ws : List Cond} {rm : Room} {as : Array Value} {Ls : Array Slot} {h0 : Heap} {Q : Option Value → Heap → List Loc → Prop}
    (hpl : plainFor y = true) (ef : ∀ m, entryFrame m as maxL = mkF m 0 Ls [])
    (body : ∀ (p : Program) (e : Env) (s : State) (m : MethodId) (below : List Frame) (meth : Method) (c : Code) (T : State), p.tables.exec = Jvm.exec → c.code = bytes → c.maxLocals = maxL → Z.Warmed39 s.vm → s.vm.findClass y.cls = some m.cls → meth.name = y.name →
      meth.sig.returnType = ret → meth.locks = false → Stand p l e rm s m as below meth c T [] 0 0 → T.heap = h0 → Go p.tables e below s Q rm.cells rm.slots (T.setTop (mkF m 0 Ls []))) :
    MetFree l y (head1 (Cond.code y bytes maxL ret :: ws) rm) (fun a U => a = as ∧ Z.Warmed39 U.vm ∧ U.heap = h0) (fun _ _ _ _ _ => True) (fun _ U o U' => ∃ v L, o = .returned v ∧ Q v U'.heap L ∧ FrameEnd U o U' L rm.cells rm.slots) := by
  refine MetFree.of_bodySF hpl hisR ?_
  intro p e s m args below meth c s₁ Bd hml0 hP hK
  obtain ⟨rfl, hZ, hh⟩ := hP
  obtain ⟨t, o, h1, h2, h3, h4⟩ := body p e s m below meth c s₁ Bd.exec Bd.bytes hml0 hZ (findClass_of_methodNamed Bd.named) (name_of_methodNamed Bd.named Bd.method).1 Bd.returns Bd.notSynchronized (Stand.of_body Bd) (by rw [← hh, Bd.state]; rfl)
  exact ⟨t, o, castTop (ef m) h1, h2, h3, h4⟩
/-- what a callee's contract says -/
abbrev Con (l : Launch) (Z : State) (y : MethodName) (bytes : ByteArray) (maxL : Nat) (ret : Option FieldType) (rm : Room) (as : Array Value) (h0 : Heap) (Q : Option Value → Heap → List Loc → Prop) : Prop :=
  MetFree l y (head1 [Cond.code y bytes maxL ret] rm) (fun a U => a = as ∧ Z.Warmed39 U.vm ∧ U.heap = h0) (fun _ _ _ _ _ => True) (fun _ U o U' => ∃ v L, o = .returned v ∧ Q v U'.heap L ∧ FrameEnd U o U' L rm.cells rm.slots)
section Call
variable {p : Program} {l : Launch} {e : Env} {R : Room} {s : State} {m : MethodId} {args : Array Value} {below : List Frame} {meth : Method} {c : Code} {T : State} {locs : List Loc} {cells slots : Nat} {Q : Option Value → Heap → List Loc → Prop} {C S : Nat} {Z : State} {a0 : Array Value} {h : Heap}
theorem Go.callS (X : Stand p l e R s m args below meth c T locs cells slots) (hx : p.tables.exec = Jvm.exec) (hZ : Z.Warmed39 s.vm) {own : String} {index : Nat} {y : MethodName} {bytes : ByteArray} {maxL : Nat} {ret : Option FieldType} {rm : Room} {Q' : Option Value → Heap → List Loc → Prop}
    (hown : s.vm.findClass own = some m.cls) (w1 : (Cond.methodLink own index y).before a0 Z = true) (w2 : (Cond.static y).before a0 Z = true) (w3 : (Cond.initialized y.cls).before a0 Z = true)
    (w4 : (Cond.code y bytes maxL ret).before a0 Z = true) (hy : y.cls ≠ "java/lang/invoke/MethodHandle" ∧ y.cls ≠ "java/lang/invoke/VarHandle")
    (eT : T.heap = h) {pc : Nat} {Ls : Array Slot} {argsL rest st : List Value} {W : Nat} {ps : List FieldType} (hM : Con l Z y bytes maxL ret rm argsL.toArray h Q') (hd : decode c.code pc = .ok (.invokestatic index, 3))
    (hsz : Ls.size = c.maxLocals) (hst : st = argsL.reverse ++ rest) (hpd : parseMethodDescriptor y.desc = some ⟨ps, ret⟩) (hlen : argsL.length = ps.length) (hW : (rest.map fun v => v.category).sum = W)
    (hf : rm.frames + 1 ≤ R.frames) (hl : W + (maxL + 11) + rm.locals ≤ R.locals) (hc : cells + rm.cells ≤ R.cells) (hn : slots + rm.slots ≤ R.slots)
    (k : ∀ (v : Option Value) (T' : State) (L' : List Loc), Stand p l e R s m args below meth c T' (locs ++ L') (cells + rm.cells) (slots + rm.slots) → Q' v T'.heap L' → Go p.tables e below s Q C S (T'.setTop (mkF m (pc + 3) Ls (v.toList ++ rest)))) :
    Go p.tables e below s Q C S (T.setTop (mkF m pc Ls st)) := by
  obtain ⟨v, _, ⟨T', L', kc, kn⟩, -, X', ⟨Lc, hQ, l3, y3, z3⟩, st⟩ := Jvm.LawKit.callS X hx hown (mvT hZ w1) (mvT hZ w2) (mvT hZ w3) (mvT hZ w4) hy (backOf (W := W) hM hZ w4 w3 hf hl) (g := mkF m pc Ls st) rfl hsz (argsL := argsL) (rest := rest) (lenOf hpd hlen) hst (by show 2 * 0 + _ ≤ _; rw [hW]; omega) hd (fun _ _ => ⟨rfl, eT, hc, hn⟩)
  dsimp only [Pt.U, Pt.locs, Pt.cells, Pt.slots] at X' l3 y3 z3 st hQ
  subst l3 y3 z3
  exact Go.of st (k v T' Lc X' hQ)
theorem Go.callI (X : Stand p l e R s m args below meth c T locs cells slots) (hx : p.tables.exec = Jvm.exec) (hZ : Z.Warmed39 s.vm) {own : String} {index : Nat} {y : MethodName} {bytes : ByteArray} {maxL : Nat} {rm : Room} {Q' : Option Value → Heap → List Loc → Prop}
    (hown : s.vm.findClass own = some m.cls) (hy1 : y.name = "<init>") (w1 : (Cond.methodLink own index y).before a0 Z = true) (w2 : (Cond.instanceMethod y).before a0 Z = true) (w3 : (Cond.initialized y.cls).before a0 Z = true)
    (w4 : (Cond.code y bytes maxL none).before a0 Z = true) (hy : y.cls ≠ "java/lang/invoke/MethodHandle" ∧ y.cls ≠ "java/lang/invoke/VarHandle")
    (eT : T.heap = h) {pc : Nat} {Ls : Array Slot} {a : Addr} {argsL rest st : List Value} {W : Nat} {ps : List FieldType} (hM : Con l Z y bytes maxL none rm (.ref a :: argsL).toArray h Q') (hd : decode c.code pc = .ok (.invokespecial index, 3))
    (hsz : Ls.size = c.maxLocals) (hst : st = argsL.reverse ++ .ref a :: rest) (hpd : parseMethodDescriptor y.desc = some ⟨ps, none⟩) (hlen : argsL.length = ps.length) (hW : (rest.map fun v => v.category).sum = W)
    (hf : rm.frames + 1 ≤ R.frames) (hl : W + (maxL + 11) + rm.locals ≤ R.locals) (hc : cells + rm.cells ≤ R.cells) (hn : slots + rm.slots ≤ R.slots)
    (k : ∀ (v : Option Value) (T' : State) (L' : List Loc), Stand p l e R s m args below meth c T' (locs ++ L') (cells + rm.cells) (slots + rm.slots) → Q' v T'.heap L' → Go p.tables e below s Q C S (T'.setTop (mkF m (pc + 3) Ls (v.toList ++ rest)))) :
    Go p.tables e below s Q C S (T.setTop (mkF m pc Ls st)) := by
  obtain ⟨v, _, ⟨T', L', kc, kn⟩, -, X', ⟨Lc, hQ, l3, y3, z3⟩, st⟩ := X.specialBack hx hy1 hown (mvT hZ w1) (mvT hZ w2) (mvT hZ w4) hy (backOf (W := W) hM hZ w4 w3 hf hl) (g := mkF m pc Ls st) rfl hsz (Steps.refl _) (a := a) (argsL := argsL) (rest := rest) (lenOf hpd hlen) hst (by show 2 * 0 + _ ≤ _; rw [hW]; omega) hd (fun _ _ => ⟨rfl, eT, hc, hn⟩)
  dsimp only [Pt.U, Pt.locs, Pt.cells, Pt.slots] at X' l3 y3 z3 st hQ
  subst l3 y3 z3
  exact Go.of (fun _ q => st.trans q) (k v T' Lc X' hQ)
theorem Go.callV (X : Stand p l e R s m args below meth c T locs cells slots) (hx : p.tables.exec = Jvm.exec) (hZ : Z.Warmed39 s.vm) {own K : String} {index : Nat} {y z : MethodName} {bytes : ByteArray} {maxL : Nat} {ret : Option FieldType} {rm : Room} {Q' : Option Value → Heap → List Loc → Prop}
    (hown : s.vm.findClass own = some m.cls) (w1 : (Cond.methodLink own index y).before a0 Z = true) (w2 : (Cond.declares y).before a0 Z = true) (nf : NotFace s y) (w5 : (Cond.selects K y z).before a0 Z = true) (w6 : (Cond.instanceMethod z).before a0 Z = true) (w3 : (Cond.initialized z.cls).before a0 Z = true)
    (w4 : (Cond.code z bytes maxL ret).before a0 Z = true) (hy : y.cls ≠ "java/lang/invoke/MethodHandle" ∧ y.cls ≠ "java/lang/invoke/VarHandle")
    (eT : T.heap = h) {pc : Nat} {Ls : Array Slot} {a : Addr} {argsL rest st : List Value} {W : Nat} {ps : List FieldType} {rt : Option FieldType} (E : Exa Z h a K) (hM : Con l Z z bytes maxL ret rm (.ref a :: argsL).toArray h Q') (hd : decode c.code pc = .ok (.invokevirtual index, 3))
    (hsz : Ls.size = c.maxLocals) (hst : st = argsL.reverse ++ .ref a :: rest) (hpd : parseMethodDescriptor y.desc = some ⟨ps, rt⟩) (hlen : argsL.length = ps.length) (hW : (rest.map fun v => v.category).sum = W)
    (hf : rm.frames + 1 ≤ R.frames) (hl : W + (maxL + 11) + rm.locals ≤ R.locals) (hc : cells + rm.cells ≤ R.cells) (hn : slots + rm.slots ≤ R.slots)
    (k : ∀ (v : Option Value) (T' : State) (L' : List Loc), Stand p l e R s m args below meth c T' (locs ++ L') (cells + rm.cells) (slots + rm.slots) → Q' v T'.heap L' → Go p.tables e below s Q C S (T'.setTop (mkF m (pc + 3) Ls (v.toList ++ rest)))) :
    Go p.tables e below s Q C S (T.setTop (mkF m pc Ls st)) := by
  obtain ⟨cq, kq, qa, qb, qc⟩ := isOf hZ eT E
  obtain ⟨v, _, ⟨T', L', kc, kn⟩, -, X', ⟨Lc, hQ, l3, y3, z3⟩, st⟩ := X.virtualBack hx (y := y) (z := z) hown (mvT hZ w1) (mvT hZ w2) nf (mvT hZ w5) (mvT hZ w6) hy (backOf (W := W) hM hZ w4 w3 hf hl) qa qc (g := mkF m pc Ls st) rfl hsz (Steps.refl _) (argsL := argsL) (rest := rest) (lenOf hpd hlen) hst (by show 2 * 0 + _ ≤ _; rw [hW]; omega) hd (fun _ _ => ⟨rfl, eT, hc, hn⟩)
  dsimp only [Pt.U, Pt.locs, Pt.cells, Pt.slots] at X' l3 y3 z3 st hQ
  subst l3 y3 z3
  exact Go.of (fun _ q => st.trans q) (k v T' Lc X' hQ)
/-- a private method by invokevirtual -/
theorem Go.callP (X : Stand p l e R s m args below meth c T locs cells slots) (hx : p.tables.exec = Jvm.exec) (hZ : Z.Warmed39 s.vm) {own K : String} {index : Nat} {y : MethodName} {bytes : ByteArray} {maxL : Nat} {ret : Option FieldType} {rm : Room} {Q' : Option Value → Heap → List Loc → Prop}
    (hown : s.vm.findClass own = some m.cls) (w1 : (Cond.methodLink own index y).before a0 Z = true) (w6 : (Cond.instanceMethod y).before a0 Z = true) {kk : Nat} (w5 : (Cond.instantiable y.cls kk).before a0 Z = true) (w7 : (Cond.privateMethod y).before a0 Z = true) (w3 : (Cond.initialized y.cls).before a0 Z = true)
    (w4 : (Cond.code y bytes maxL ret).before a0 Z = true) (hy : y.cls ≠ "java/lang/invoke/MethodHandle" ∧ y.cls ≠ "java/lang/invoke/VarHandle")
    (eT : T.heap = h) {pc : Nat} {Ls : Array Slot} {a : Addr} {argsL rest st : List Value} {W : Nat} {ps : List FieldType} {rt : Option FieldType} (E : Exa Z h a K) (hM : Con l Z y bytes maxL ret rm (.ref a :: argsL).toArray h Q') (hd : decode c.code pc = .ok (.invokevirtual index, 3))
    (hsz : Ls.size = c.maxLocals) (hst : st = argsL.reverse ++ .ref a :: rest) (hpd : parseMethodDescriptor y.desc = some ⟨ps, rt⟩) (hlen : argsL.length = ps.length) (hW : (rest.map fun v => v.category).sum = W)
    (hf : rm.frames + 1 ≤ R.frames) (hl : W + (maxL + 11) + rm.locals ≤ R.locals) (hc : cells + rm.cells ≤ R.cells) (hn : slots + rm.slots ≤ R.slots)
    (k : ∀ (v : Option Value) (T' : State) (L' : List Loc), Stand p l e R s m args below meth c T' (locs ++ L') (cells + rm.cells) (slots + rm.slots) → Q' v T'.heap L' → Go p.tables e below s Q C S (T'.setTop (mkF m (pc + 3) Ls (v.toList ++ rest)))) :
    Go p.tables e below s Q C S (T.setTop (mkF m pc Ls st)) := by
  obtain ⟨cq, q1, q2⟩ := E.cell
  obtain ⟨c2, k2, i1, i2, -, i4, -⟩ := Cond.instantiable_spec (mvT (args := args) hZ w5)
  have hpv : s.PrivateAt y := Cond.privateMethod_at (mvP hZ w7 (args := #[]))
  have hsel : (Cond.selects y.cls y y).before args s = true := selects_self_of_private i1 i2 (by simpa using (Bool.or_eq_false_iff.mp i4).1) hpv (mvT hZ w6) hy
  obtain ⟨v, _, ⟨T', L', kc, kn⟩, -, X', ⟨Lc, hQ, l3, y3, z3⟩, st⟩ := X.privateBack hx (y := y) hown (mvT hZ w1) (mvT hZ w6) hsel hpv (mvT hZ w4) hy (backOf (W := W) hM hZ w4 w3 hf hl) (g := mkF m pc Ls st) rfl hsz (Steps.refl _) (a := a) (by rw [eT]; exact q1) q2 (argsL := argsL) (rest := rest) (lenOf hpd hlen) hst (by show 2 * 0 + _ ≤ _; rw [hW]; omega) hd (fun _ _ => ⟨rfl, eT, hc, hn⟩)
  dsimp only [Pt.U, Pt.locs, Pt.cells, Pt.slots] at X' l3 y3 z3 st hQ
  subst l3 y3 z3
  exact Go.of (fun _ q => st.trans q) (k v T' Lc X' hQ)
end Call
/-- an array of n places, place i holding f i -/
def ArF (Z : State) (h : Heap) (a : Addr) (ty : FieldType) (n : Nat) (f : Nat → Value) : Prop :=
  ∃ cl : Cell, Arr Z h a cl ty ∧ cl.slots.size = n ∧ n < 2 ^ 31 ∧ (∀ i, i < n → cl.slots[i]? = some (f i)) ∧ ∀ i, i < n → fits ty (f i) = true
def upV (f : Nat → Value) (j : Nat) (v : Value) (i : Nat) : Value := if i = j then v else f i
def upI (f : Nat → Int32) (j : Nat) (v : Int32) (i : Nat) : Int32 := if i = j then v else f i
def upJ (f : Nat → Int64) (j : Nat) (v : Int64) (i : Nat) : Int64 := if i = j then v else f i
def upD (f : Nat → UInt64) (j : Nat) (v : UInt64) (i : Nat) : UInt64 := if i = j then v else f i
section ArF
variable {Z : State} {h h' : Heap} {a b : Addr} {ty : FieldType} {n : Nat} {f : Nat → Value} {sl : Nat} {v : Value} {ws : List Addr}
theorem ArF.lt (F : ArF Z h a ty n f) : a < h.size := by obtain ⟨c, A, -⟩ := F; exact A.lt
theorem ArF.ext (F : ArF Z h a ty n f) (E : Ext h h') : ArF Z h' a ty n f := by obtain ⟨c, A, r⟩ := F; exact ⟨c, A.ext E, r⟩
theorem ArF.other (F : ArF Z h b ty n f) (W : Wr h h' a sl v) (q : b ≠ a) : ArF Z h' b ty n f := by obtain ⟨c, A, r⟩ := F; exact ⟨c, A.other W q, r⟩
theorem ArF.keep (F : ArF Z h a ty n f) (K : Keep h h' ws) (q : a ∉ ws) : ArF Z h' a ty n f := by obtain ⟨c, A, r⟩ := F; exact ⟨c, ⟨K.2.1 a c A.1 q, A.2⟩, r⟩
theorem ArF.len (F : ArF Z h a ty n f) : n < 2 ^ 31 := by obtain ⟨c, A, r1, r2, -⟩ := F; exact r2
theorem ArF.fit (F : ArF Z h a ty n f) {i : Nat} (hi : i < n) : fits ty (f i) = true := by obtain ⟨c, A, r1, r2, r3, r4⟩ := F; exact r4 i hi
theorem ArF.congr {g : Nat → Value} (F : ArF Z h a ty n f) (q : ∀ i, i < n → g i = f i) : ArF Z h a ty n g := by
  obtain ⟨c, A, r1, r2, r3, r4⟩ := F
  exact ⟨c, A, r1, r2, fun i hi => by rw [q i hi]; exact r3 i hi, fun i hi => by rw [q i hi]; exact r4 i hi⟩
theorem ArF.new {k : ClassId} {z : Int32} (A : Arr Z h a (newA k ty z) ty) (hn : ¬ z < 0) (hz : z.toNatClampNeg = n) : ArF Z h a ty n (fun _ => defaultValue ty) := by
  subst hz
  refine ⟨_, A, sz_new _ _ _, (back32 hn).2, fun i hi => ?_, fun i hi => by cases ty <;> rfl⟩
  simp [newA, hi]
theorem ArF.set {x : Nat} (F : ArF Z h a ty n f) (hv : fits ty v = true) (W : Wr h h' a x v) : ArF Z h' a ty n (upV f x v) := by
  obtain ⟨c, A, r1, r2, r3, r4⟩ := F
  refine ⟨_, A.same W, by simp [Cell.setSlot, r1], r2, fun i hi => ?_, fun i hi => ?_⟩
  · by_cases e : i = x
    · subst e; simp [upV, Cell.setSlot, r1, hi]
    · simp only [upV, e, if_false, Cell.setSlot]
      rw [Array.getElem?_setIfInBounds_ne (Ne.symm e)]; exact r3 i hi
  · by_cases e : i = x
    · simp [upV, e, hv]
    · simp only [upV, e, if_false]; exact r4 i hi
theorem ArF.arv (F : ArF Z h a ty n f) (d : Value) : ∃ k, Arv Z h a k ty n.toInt32 ((List.range n).map f) d := by
  obtain ⟨c, A, r1, r2, r3, r4⟩ := F
  have hz : (n.toInt32).toInt = n := len_toInt r2
  have hz0 : (0 : Int32).toInt = 0 := rfl
  have hg : ∀ i, i < n → ((List.range n).map f).getD i d = f i := fun i hi => by simp [List.getD, hi]
  refine ⟨c.cls, c, A, rfl, ?_, by rw [Int32.lt_iff_toInt_lt]; omega, fun i hi => ?_, fun i hi => ?_⟩
  · rw [r1, Int32.toNatClampNeg]; omega
  · rw [r1] at hi; rw [hg i hi]; exact r3 i hi
  · rw [r1] at hi; rw [hg i hi]; exact r4 i hi
theorem arF_of_arv {k : ClassId} {z : Int32} {vs : List Value} {d : Value} (F : Arv Z h a k ty z vs d) : ArF Z h a ty z.toNatClampNeg (fun i => vs.getD i d) := by
  obtain ⟨c, A, -, r2, r3, r4, r5⟩ := F
  exact ⟨c, A, r2, (back32 r3).2, fun i hi => r4 i (by rw [r2]; exact hi), fun i hi => r5 i (by rw [r2]; exact hi)⟩
/-- n places of f from sp on, laid over f' from dp on -/
def cpF (f f' : Nat → Value) (sp dp nn : Nat) (i : Nat) : Value := if dp ≤ i ∧ i < dp + nn then f (sp + (i - dp)) else f' i
def cpT {α : Type} (f f' : Nat → α) (sp dp nn : Nat) (i : Nat) : α := if dp ≤ i ∧ i < dp + nn then f (sp + (i - dp)) else f' i
theorem ArF.cpI {g g' : Nat → Int32} {x y z : Nat} (F : ArF Z h a ty n (cpF (fun i => .int (g i)) (fun i => .int (g' i)) x y z)) : ArF Z h a ty n (fun i => .int (cpT g g' x y z i)) := F.congr fun i _ => by simp only [cpF, cpT]; split <;> rfl
theorem ArF.cpJ {g g' : Nat → Int64} {x y z : Nat} (F : ArF Z h a ty n (cpF (fun i => .long (g i)) (fun i => .long (g' i)) x y z)) : ArF Z h a ty n (fun i => .long (cpT g g' x y z i)) := F.congr fun i _ => by simp only [cpF, cpT]; split <;> rfl
theorem ArF.cpD {g g' : Nat → UInt64} {x y z : Nat} (F : ArF Z h a ty n (cpF (fun i => .double (g i)) (fun i => .double (g' i)) x y z)) : ArF Z h a ty n (fun i => .double (cpT g g' x y z i)) := F.congr fun i _ => by simp only [cpF, cpT]; split <;> rfl
theorem nat_idx {j : Int32} {k : Nat} (hj : j.toInt = (k : Int)) : j.toNatClampNeg = k := by simp only [Int32.toNatClampNeg]; omega
theorem in_idx {j : Int32} {k : Nat} {c : Cell} (hj : j.toInt = (k : Int)) (hk : k < n) (e : c.slots.size = n) : ¬ (j < 0 ∨ c.slots.size ≤ j.toNatClampNeg) := by
  rw [nat_idx hj, e, Int32.lt_iff_toInt_lt]
  have : (0 : Int32).toInt = 0 := rfl
  omega
end ArF
section ArrSteps
variable {p : Program} {l : Launch} {e : Env} {R : Room} {s : State} {m : MethodId} {args : Array Value} {below : List Frame} {meth : Method} {c : Code} {T : State} {locs : List Loc} {cells slots : Nat} {Q : Option Value → Heap → List Loc → Prop} {C S : Nat} {Z : State} {a0 : Array Value} {h : Heap} {a : Addr} {n : Nat} {j : Int32} {pc : Nat} {Ls : Array Slot} {rest : List Value}
theorem Go.alen (X : Stand p l e R s m args below meth c T locs cells slots) (hx : p.tables.exec = Jvm.exec) (hZ : Z.Warmed39 s.vm) (eT : T.heap = h) {ty : FieldType} {f : Nat → Value} (F : ArF Z h a ty n f) (hd : decode c.code pc = .ok (.arraylength, 1))
    (kk : Go p.tables e below s Q C S (T.setTop (mkF m (pc + 1) Ls (.int n.toInt32 :: rest)))) : Go p.tables e below s Q C S (T.setTop (mkF m pc Ls (.ref a :: rest))) := by
  obtain ⟨cl, A, r1, r2, -⟩ := F
  subst r1
  exact Go.of (fun t q => X.arraylength hx (by rw [eT]; exact A.1) (State.isArrayOf_alike hZ.alike A.2.1) (g := mkF m pc Ls (.ref a :: rest)) rfl rfl hd t q) kk
theorem Go.iaload (X : Stand p l e R s m args below meth c T locs cells slots) (hx : p.tables.exec = Jvm.exec) (hZ : Z.Warmed39 s.vm) (eT : T.heap = h) {f : Nat → Int32} (F : ArF Z h a .int n (fun i => .int (f i))) {k : Nat} (hj : j.toInt = (k : Int)) (hk : k < n) (hd : decode c.code pc = .ok (.iaload, 1))
    (kk : Go p.tables e below s Q C S (T.setTop (mkF m (pc + 1) Ls (.int (f k) :: rest)))) : Go p.tables e below s Q C S (T.setTop (mkF m pc Ls (.int j :: .ref a :: rest))) := by
  obtain ⟨cl, A, r1, r2, r3, -⟩ := F
  exact Go.of (fun t q => X.iaload hx (j := j) (v := .int (f k)) (by rw [eT]; exact A.1) (State.isArrayOf_alike hZ.alike A.2.1) A.2.2 (in_idx hj hk r1) (by rw [nat_idx hj, r3 _ hk]) (g := mkF m pc Ls (.int j :: .ref a :: rest)) rfl rfl hd t q) kk
theorem Go.laload (X : Stand p l e R s m args below meth c T locs cells slots) (hx : p.tables.exec = Jvm.exec) (hZ : Z.Warmed39 s.vm) (eT : T.heap = h) {f : Nat → Int64} (F : ArF Z h a .long n (fun i => .long (f i))) {k : Nat} (hj : j.toInt = (k : Int)) (hk : k < n) (hd : decode c.code pc = .ok (.laload, 1))
    (kk : Go p.tables e below s Q C S (T.setTop (mkF m (pc + 1) Ls (.long (f k) :: rest)))) : Go p.tables e below s Q C S (T.setTop (mkF m pc Ls (.int j :: .ref a :: rest))) := by
  obtain ⟨cl, A, r1, r2, r3, -⟩ := F
  exact Go.of (fun t q => X.laload hx (j := j) (v := .long (f k)) (by rw [eT]; exact A.1) (State.isArrayOf_alike hZ.alike A.2.1) A.2.2 (in_idx hj hk r1) (by rw [nat_idx hj, r3 _ hk]) (g := mkF m pc Ls (.int j :: .ref a :: rest)) rfl rfl hd t q) kk
theorem Go.baload (X : Stand p l e R s m args below meth c T locs cells slots) (hx : p.tables.exec = Jvm.exec) (hZ : Z.Warmed39 s.vm) (eT : T.heap = h) {f : Nat → Int32} (F : ArF Z h a .byte n (fun i => .int (f i))) {k : Nat} (hj : j.toInt = (k : Int)) (hk : k < n) (hd : decode c.code pc = .ok (.baload, 1))
    (kk : Go p.tables e below s Q C S (T.setTop (mkF m (pc + 1) Ls (.int (f k) :: rest)))) : Go p.tables e below s Q C S (T.setTop (mkF m pc Ls (.int j :: .ref a :: rest))) := by
  obtain ⟨cl, A, r1, r2, r3, -⟩ := F
  exact Go.of (fun t q => X.baloadBytes hx (j := j) (v := .int (f k)) (by rw [eT]; exact A.1) (State.isArrayOf_alike hZ.alike A.2.1) A.2.2 (in_idx hj hk r1) (by rw [nat_idx hj, r3 _ hk]) (g := mkF m pc Ls (.int j :: .ref a :: rest)) rfl rfl hd t q) kk
theorem Go.daload (X : Stand p l e R s m args below meth c T locs cells slots) (hx : p.tables.exec = Jvm.exec) (hZ : Z.Warmed39 s.vm) (eT : T.heap = h) {f : Nat → UInt64} (F : ArF Z h a .double n (fun i => .double (f i))) {k : Nat} (hj : j.toInt = (k : Int)) (hk : k < n) (hd : decode c.code pc = .ok (.daload, 1))
    (kk : Go p.tables e below s Q C S (T.setTop (mkF m (pc + 1) Ls (.double (f k) :: rest)))) : Go p.tables e below s Q C S (T.setTop (mkF m pc Ls (.int j :: .ref a :: rest))) := by
  obtain ⟨cl, A, r1, r2, r3, -⟩ := F
  exact Go.of (fun t q => X.daload hx (j := j) (v := .double (f k)) (by rw [eT]; exact A.1) (State.isArrayOf_alike hZ.alike A.2.1) A.2.2 (in_idx hj hk r1) (by rw [nat_idx hj, r3 _ hk]) (g := mkF m pc Ls (.int j :: .ref a :: rest)) rfl rfl hd t q) kk
theorem Go.aaload (X : Stand p l e R s m args below meth c T locs cells slots) (hx : p.tables.exec = Jvm.exec) (hZ : Z.Warmed39 s.vm) (eT : T.heap = h) {ty : FieldType} {f : Nat → Value} (F : ArF Z h a ty n f) (hty : ty.isReference = true) {k : Nat} (hj : j.toInt = (k : Int)) (hk : k < n) {v : Value} (hv : f k = v) (hd : decode c.code pc = .ok (.aaload, 1))
    (kk : Go p.tables e below s Q C S (T.setTop (mkF m (pc + 1) Ls (v :: rest)))) : Go p.tables e below s Q C S (T.setTop (mkF m pc Ls (.int j :: .ref a :: rest))) := by
  obtain ⟨cl, A, r1, r2, r3, -⟩ := F
  exact Go.of (fun t q => X.aaload hx (j := j) (v := v) (by rw [eT]; exact A.1) (State.isArrayOf_alike hZ.alike A.2.1) hty A.2.2 (in_idx hj hk r1) (by rw [nat_idx hj, r3 _ hk, hv]) (g := mkF m pc Ls (.int j :: .ref a :: rest)) rfl rfl hd t q) kk
theorem Go.iastore (X : Stand p l e R s m args below meth c T locs cells slots) (hx : p.tables.exec = Jvm.exec) (hZ : Z.Warmed39 s.vm) (eT : T.heap = h) {f : Nat → Int32} (F : ArF Z h a .int n (fun i => .int (f i))) {x : Int32} {k : Nat} (hj : j.toInt = (k : Int)) (hk : k < n) (hd : decode c.code pc = .ok (.iastore, 1))
    (kk : ∀ T' h', Stand p l e R s m args below meth c T' (locs ++ [⟨a, k⟩]) cells slots → T'.heap = h' → Wr h h' a k (.int x) → ArF Z h' a .int n (fun i => .int (upI f k x i)) → Go p.tables e below s Q C S (T'.setTop (mkF m (pc + 1) Ls rest))) : Go p.tables e below s Q C S (T.setTop (mkF m pc Ls (.int x :: .int j :: .ref a :: rest))) := by
  obtain ⟨cl, A, r1, r2, r3, r4⟩ := F
  obtain ⟨T', h', X', e', W, st⟩ := stI X hx hZ eT A (j := j) (in_idx hj hk r1) (g := mkF m pc Ls (.int x :: .int j :: .ref a :: rest)) rfl rfl hd
  rw [nat_idx hj] at X' W
  exact Go.of st (kk T' h' X' e' W ((ArF.set ⟨cl, A, r1, r2, r3, r4⟩ rfl W).congr fun i _ => by simp only [upV, upI]; split <;> rfl))
theorem Go.lastore (X : Stand p l e R s m args below meth c T locs cells slots) (hx : p.tables.exec = Jvm.exec) (hZ : Z.Warmed39 s.vm) (eT : T.heap = h) {f : Nat → Int64} (F : ArF Z h a .long n (fun i => .long (f i))) {x : Int64} {k : Nat} (hj : j.toInt = (k : Int)) (hk : k < n) (hd : decode c.code pc = .ok (.lastore, 1))
    (kk : ∀ T' h', Stand p l e R s m args below meth c T' (locs ++ [⟨a, k⟩]) cells slots → T'.heap = h' → Wr h h' a k (.long x) → ArF Z h' a .long n (fun i => .long (upJ f k x i)) → Go p.tables e below s Q C S (T'.setTop (mkF m (pc + 1) Ls rest))) : Go p.tables e below s Q C S (T.setTop (mkF m pc Ls (.long x :: .int j :: .ref a :: rest))) := by
  obtain ⟨cl, A, r1, r2, r3, r4⟩ := F
  obtain ⟨T', h', X', e', W, st⟩ := stJ X hx hZ eT A (j := j) (in_idx hj hk r1) (g := mkF m pc Ls (.long x :: .int j :: .ref a :: rest)) rfl rfl hd
  rw [nat_idx hj] at X' W
  exact Go.of st (kk T' h' X' e' W ((ArF.set ⟨cl, A, r1, r2, r3, r4⟩ rfl W).congr fun i _ => by simp only [upV, upJ]; split <;> rfl))
theorem Go.bastore (X : Stand p l e R s m args below meth c T locs cells slots) (hx : p.tables.exec = Jvm.exec) (hZ : Z.Warmed39 s.vm) (eT : T.heap = h) {f : Nat → Int32} (F : ArF Z h a .byte n (fun i => .int (f i))) {x : Int32} {k : Nat} (hj : j.toInt = (k : Int)) (hk : k < n) (hd : decode c.code pc = .ok (.bastore, 1))
    (kk : ∀ T' h', Stand p l e R s m args below meth c T' (locs ++ [⟨a, k⟩]) cells slots → T'.heap = h' → Wr h h' a k (.int (nar .byte x)) → ArF Z h' a .byte n (fun i => .int (upI f k (nar .byte x) i)) → Go p.tables e below s Q C S (T'.setTop (mkF m (pc + 1) Ls rest))) : Go p.tables e below s Q C S (T.setTop (mkF m pc Ls (.int x :: .int j :: .ref a :: rest))) := by
  obtain ⟨cl, A, r1, r2, r3, r4⟩ := F
  obtain ⟨T', h', X', e', W, st⟩ := stB X hx hZ eT A (j := j) (in_idx hj hk r1) (g := mkF m pc Ls (.int x :: .int j :: .ref a :: rest)) rfl rfl hd
  rw [nat_idx hj] at X' W
  exact Go.of st (kk T' h' X' e' W ((ArF.set ⟨cl, A, r1, r2, r3, r4⟩ (fits_nar_byte _) W).congr fun i _ => by simp only [upV, upI]; split <;> rfl))
theorem Go.dastore (X : Stand p l e R s m args below meth c T locs cells slots) (hx : p.tables.exec = Jvm.exec) (hZ : Z.Warmed39 s.vm) (eT : T.heap = h) {f : Nat → UInt64} (F : ArF Z h a .double n (fun i => .double (f i))) {x : UInt64} {k : Nat} (hj : j.toInt = (k : Int)) (hk : k < n) (hd : decode c.code pc = .ok (.dastore, 1))
    (kk : ∀ T' h', Stand p l e R s m args below meth c T' (locs ++ [⟨a, k⟩]) cells slots → T'.heap = h' → Wr h h' a k (.double x) → ArF Z h' a .double n (fun i => .double (upD f k x i)) → Go p.tables e below s Q C S (T'.setTop (mkF m (pc + 1) Ls rest))) : Go p.tables e below s Q C S (T.setTop (mkF m pc Ls (.double x :: .int j :: .ref a :: rest))) := by
  obtain ⟨cl, A, r1, r2, r3, r4⟩ := F
  obtain ⟨T', h', X', e', W, st⟩ := stD X hx hZ eT A (j := j) (in_idx hj hk r1) (g := mkF m pc Ls (.double x :: .int j :: .ref a :: rest)) rfl rfl hd
  rw [nat_idx hj] at X' W
  exact Go.of st (kk T' h' X' e' W ((ArF.set ⟨cl, A, r1, r2, r3, r4⟩ rfl W).congr fun i _ => by simp only [upV, upD]; split <;> rfl))
theorem Go.newarr (X : Stand p l e R s m args below meth c T locs cells slots) (hx : p.tables.exec = Jvm.exec) (hZ : Z.Warmed39 s.vm) {aty : ArrayType} {ty : FieldType} (hty : newarray.typeOf aty = ty) (w : (Cond.arrayClass ty).before a0 Z = true) (eT : T.heap = h) {z : Int32} (hn : ¬ z < 0) (hz : z.toNatClampNeg = n) {cap : Nat} (hcap : n ≤ cap) (hb : cap * 8 ≤ 536870912) (hc : cells + 1 ≤ R.cells) (hl : slots + cap ≤ R.slots)
    (hd : decode c.code pc = .ok (.newarray aty, 2))
    (kk : ∀ T' h' b, Stand p l e R s m args below meth c T' locs (cells + 1) (slots + cap) → T'.heap = h' → Ext h h' → b = h.size → ArF Z h' b ty n (fun _ => defaultValue ty) → Go p.tables e below s Q C S (T'.setTop (mkF m (pc + 2) Ls (.ref b :: rest)))) : Go p.tables e below s Q C S (T.setTop (mkF m pc Ls (.int z :: rest))) := by
  subst hty
  obtain ⟨T', h', cA, X', e', E, A, st⟩ := newP X hx hZ w eT (g := mkF m pc Ls (.int z :: rest)) rfl hd rfl hn (cap := cap) (by omega) hb hc hl
  exact Go.of st (kk T' h' h.size X' e' E rfl (ArF.new A hn hz))
theorem Go.arraycopy (X : Stand p l e R s m args below meth c T locs cells slots) (hx : p.tables.exec = Jvm.exec) (hZ : Z.Warmed39 s.vm) {own : String} {index : Nat} (hown : s.vm.findClass own = some m.cls)
    (w1 : (Cond.methodLink own index Jvm.Stand.acN).before a0 Z = true) (w2 : (Cond.native Jvm.Stand.acN).before a0 Z = true) (w3 : (Cond.static Jvm.Stand.acN).before a0 Z = true) (w4 : (Cond.initialized "java/lang/System").before a0 Z = true) (eT : T.heap = h)
    {ty : FieldType} {b : Addr} {n' : Nat} {f f' : Nat → Value} (A : ArF Z h a ty n f) (B : ArF Z h b ty n' f') (hty : refKind ty = false) {sp dp nn : Int32} {ks kd kn : Nat} (h1 : sp.toInt = (ks : Int)) (h2 : dp.toInt = (kd : Int)) (h3 : nn.toInt = (kn : Int)) (h4 : ks + kn ≤ n) (h5 : kd + kn ≤ n') {n0 : Nat} (N : Fr n0 locs) (ge : n0 ≤ b)
    (hsz : Ls.size = c.maxLocals) (hd : decode c.code pc = .ok (.invokestatic index, 3)) (hf : 1 ≤ R.frames) {W : Nat} (hW : (rest.map fun v => v.category).sum = W) (hlo : W + (nativeFrameWords "java/lang/System" "arraycopy" 5 + 11) ≤ R.locals)
    (kk : ∀ T' h' L, Stand p l e R s m args below meth c T' L cells slots → T'.heap = h' → Fr n0 L → Keep h h' [b] → ArF Z h' b ty n' (cpF f f' ks kd kn) → Go p.tables e below s Q C S (T'.setTop (mkF m (pc + 3) Ls rest))) : Go p.tables e below s Q C S (T.setTop (mkF m pc Ls (.int nn :: .int dp :: .ref b :: .int sp :: .ref a :: rest))) := by
  obtain ⟨k1, A'⟩ := A.arv (.int 0)
  obtain ⟨k2, B'⟩ := B.arv (.int 0)
  have e1 := nat_idx h1
  have e2 := nat_idx h2
  have e3 := nat_idx h3
  have z0 : (0 : Int32).toInt = 0 := rfl
  have zn : (n.toInt32).toNatClampNeg = n := by have := len_toInt A.len; rw [Int32.toNatClampNeg]; omega
  have zn' : (n'.toInt32).toNatClampNeg = n' := by have := len_toInt B.len; rw [Int32.toNatClampNeg]; omega
  obtain ⟨T', h', L, X', e', N', K, V, st⟩ := cpA X hx hZ hown w1 w2 w3 w4 eT A' B' (Or.inl ⟨rfl, hty⟩) (sp := sp) (dp := dp) (nn := nn) (by rw [Int32.lt_iff_toInt_lt]; omega) (by rw [Int32.lt_iff_toInt_lt]; omega) (by rw [Int32.lt_iff_toInt_lt]; omega) (by rw [e1, e3, zn]; exact h4) (by rw [e2, e3, zn']; exact h5) rfl (by rw [e2, e3]; simpa using h5) N ge (g := mkF m pc Ls (.int nn :: .int dp :: .ref b :: .int sp :: .ref a :: rest)) rfl hsz rfl hd hf (W := W) (by show 2 * 0 + _ ≤ _; rw [hW]; omega) hlo
  refine Go.of st (kk T' h' L X' e' N' K ?_)
  have V2 := arF_of_arv V
  rw [zn'] at V2
  refine V2.congr fun i hi => ?_
  rw [e1, e2, e3]
  simp only [cpF, List.getD]
  by_cases c1 : i < kd
  · rw [if_neg (by omega), List.append_assoc, List.getElem?_append_left (by simp; omega)]
    simp [c1, hi]
  · by_cases c2 : i < kd + kn
    · have c3 : ks + (i - kd) < n := by omega
      have c4 : i - kd < kn := by omega
      rw [if_pos ⟨by omega, c2⟩, List.append_assoc, List.getElem?_append_right (by simp; omega)]
      have c5 : (List.take kd (List.map f' (List.range n'))).length = kd := by simp; omega
      rw [c5, List.getElem?_append_left (by simpa using c4)]
      simp [c4, c3]
    · have c5 : (List.take kd (List.map f' (List.range n')) ++ List.map (fun i => ((List.map f (List.range n))[ks + i]?).getD (Value.int 0)) (List.range kn)).length = kd + kn := by simp; omega
      rw [if_neg (by omega), List.getElem?_append_right (by rw [c5]; omega), c5]
      have c6 : kd + kn + (i - (kd + kn)) = i := by omega
      simp [c6, hi]
end ArrSteps
section Steps1
variable {p : Program} {l : Launch} {e : Env} {R : Room} {s : State} {m : MethodId} {args : Array Value} {below : List Frame} {meth : Method} {c : Code} {T : State} {locs : List Loc} {cells slots : Nat} {Q : Option Value → Heap → List Loc → Prop} {C S : Nat} {bs : ByteArray} {pc pc' : Nat} {Ls : Array Slot} {st : List Value} {Z : State} {a0 : Array Value} {h : Heap} {own : String}
theorem g_iloadN (X : Stand p l e R s m args below meth c T locs cells slots) (hx : p.tables.exec = Jvm.exec) (hby : c.code = bs) {k : Fin 4} {v : Int32} (hd : decode bs pc = .ok (.iload_n k, 1)) (hp : pc + 1 = pc') (hl : Ls[k.val]? = some (.val (.int v))) (kk : Go p.tables e below s Q C S (T.setTop (mkF m pc' Ls (.int v :: st)))) : Go p.tables e below s Q C S (T.setTop (mkF m pc Ls (st))) := by
  subst hp
  exact Go.of (fun _ q => XS.iloadN X.here hx rfl (hb hby hd) hl q) kk
theorem g_iload (X : Stand p l e R s m args below meth c T locs cells slots) (hx : p.tables.exec = Jvm.exec) (hby : c.code = bs) {k : Nat} {v : Int32} (hd : decode bs pc = .ok (.iload k, 2)) (hp : pc + 2 = pc') (hl : Ls[k]? = some (.val (.int v))) (kk : Go p.tables e below s Q C S (T.setTop (mkF m pc' Ls (.int v :: st)))) : Go p.tables e below s Q C S (T.setTop (mkF m pc Ls (st))) := by
  subst hp
  exact Go.of (fun _ q => XS.iload X.here hx rfl (hb hby hd) hl q) kk
theorem g_istoreN (X : Stand p l e R s m args below meth c T locs cells slots) (hx : p.tables.exec = Jvm.exec) (hby : c.code = bs) {k : Fin 4} {v : Int32} {L' : Array Slot} (hd : decode bs pc = .ok (.istore_n k, 1)) (hp : pc + 1 = pc') (hl : storeLocals Ls k.val (.int v) = some L') (kk : Go p.tables e below s Q C S (T.setTop (mkF m pc' L' (st)))) : Go p.tables e below s Q C S (T.setTop (mkF m pc Ls (.int v :: st))) := by
  subst hp
  exact Go.of (fun _ q => XS.istoreN X.here hx rfl (hb hby hd) rfl hl q) kk
theorem g_istore (X : Stand p l e R s m args below meth c T locs cells slots) (hx : p.tables.exec = Jvm.exec) (hby : c.code = bs) {k : Nat} {v : Int32} {L' : Array Slot} (hd : decode bs pc = .ok (.istore k, 2)) (hp : pc + 2 = pc') (hl : storeLocals Ls k (.int v) = some L') (kk : Go p.tables e below s Q C S (T.setTop (mkF m pc' L' (st)))) : Go p.tables e below s Q C S (T.setTop (mkF m pc Ls (.int v :: st))) := by
  subst hp
  exact Go.of (fun _ q => XS.istore X.here hx rfl (hb hby hd) rfl hl q) kk
theorem g_iadd (X : Stand p l e R s m args below meth c T locs cells slots) (hx : p.tables.exec = Jvm.exec) (hby : c.code = bs) {x y z : Int32} (hd : decode bs pc = .ok (.iadd, 1)) (hp : pc + 1 = pc') (hz : x + y = z) (kk : Go p.tables e below s Q C S (T.setTop (mkF m pc' Ls (.int z :: st)))) : Go p.tables e below s Q C S (T.setTop (mkF m pc Ls (.int y :: .int x :: st))) := by
  subst hp; subst hz
  exact Go.of (fun _ q => XS.iadd X.here hx rfl (hb hby hd) rfl q) kk
theorem g_isub (X : Stand p l e R s m args below meth c T locs cells slots) (hx : p.tables.exec = Jvm.exec) (hby : c.code = bs) {x y z : Int32} (hd : decode bs pc = .ok (.isub, 1)) (hp : pc + 1 = pc') (hz : x - y = z) (kk : Go p.tables e below s Q C S (T.setTop (mkF m pc' Ls (.int z :: st)))) : Go p.tables e below s Q C S (T.setTop (mkF m pc Ls (.int y :: .int x :: st))) := by
  subst hp; subst hz
  exact Go.of (fun _ q => XS.isub X.here hx rfl (hb hby hd) rfl q) kk
theorem g_imul (X : Stand p l e R s m args below meth c T locs cells slots) (hx : p.tables.exec = Jvm.exec) (hby : c.code = bs) {x y z : Int32} (hd : decode bs pc = .ok (.imul, 1)) (hp : pc + 1 = pc') (hz : x * y = z) (kk : Go p.tables e below s Q C S (T.setTop (mkF m pc' Ls (.int z :: st)))) : Go p.tables e below s Q C S (T.setTop (mkF m pc Ls (.int y :: .int x :: st))) := by
  subst hp; subst hz
  exact Go.of (fun _ q => XS.imul X.here hx rfl (hb hby hd) rfl q) kk
theorem g_iand (X : Stand p l e R s m args below meth c T locs cells slots) (hx : p.tables.exec = Jvm.exec) (hby : c.code = bs) {x y z : Int32} (hd : decode bs pc = .ok (.iand, 1)) (hp : pc + 1 = pc') (hz : x &&& y = z) (kk : Go p.tables e below s Q C S (T.setTop (mkF m pc' Ls (.int z :: st)))) : Go p.tables e below s Q C S (T.setTop (mkF m pc Ls (.int y :: .int x :: st))) := by
  subst hp; subst hz
  exact Go.of (fun _ q => XS.iand X.here hx rfl (hb hby hd) rfl q) kk
theorem g_ior (X : Stand p l e R s m args below meth c T locs cells slots) (hx : p.tables.exec = Jvm.exec) (hby : c.code = bs) {x y z : Int32} (hd : decode bs pc = .ok (.ior, 1)) (hp : pc + 1 = pc') (hz : x ||| y = z) (kk : Go p.tables e below s Q C S (T.setTop (mkF m pc' Ls (.int z :: st)))) : Go p.tables e below s Q C S (T.setTop (mkF m pc Ls (.int y :: .int x :: st))) := by
  subst hp; subst hz
  exact Go.of (fun _ q => XS.ior X.here hx rfl (hb hby hd) rfl q) kk
theorem g_ixor (X : Stand p l e R s m args below meth c T locs cells slots) (hx : p.tables.exec = Jvm.exec) (hby : c.code = bs) {x y z : Int32} (hd : decode bs pc = .ok (.ixor, 1)) (hp : pc + 1 = pc') (hz : x ^^^ y = z) (kk : Go p.tables e below s Q C S (T.setTop (mkF m pc' Ls (.int z :: st)))) : Go p.tables e below s Q C S (T.setTop (mkF m pc Ls (.int y :: .int x :: st))) := by
  subst hp; subst hz
  exact Go.of (fun _ q => XS.ixor X.here hx rfl (hb hby hd) rfl q) kk
theorem g_ineg (X : Stand p l e R s m args below meth c T locs cells slots) (hx : p.tables.exec = Jvm.exec) (hby : c.code = bs) {x z : Int32} (hd : decode bs pc = .ok (.ineg, 1)) (hp : pc + 1 = pc') (hz : -x = z) (kk : Go p.tables e below s Q C S (T.setTop (mkF m pc' Ls (.int z :: st)))) : Go p.tables e below s Q C S (T.setTop (mkF m pc Ls (.int x :: st))) := by
  subst hp; subst hz
  exact Go.of (fun _ q => XS.ineg X.here hx rfl (hb hby hd) rfl q) kk
theorem g_idiv (X : Stand p l e R s m args below meth c T locs cells slots) (hx : p.tables.exec = Jvm.exec) (hby : c.code = bs) {x y z : Int32} (hd : decode bs pc = .ok (.idiv, 1)) (hp : pc + 1 = pc') (hy : y ≠ 0) (hz : x / y = z) (kk : Go p.tables e below s Q C S (T.setTop (mkF m pc' Ls (.int z :: st)))) : Go p.tables e below s Q C S (T.setTop (mkF m pc Ls (.int y :: .int x :: st))) := by
  subst hp; subst hz
  exact Go.of (fun _ q => XS.idiv X.here hx rfl (hb hby hd) rfl hy q) kk
theorem g_lloadN (X : Stand p l e R s m args below meth c T locs cells slots) (hx : p.tables.exec = Jvm.exec) (hby : c.code = bs) {k : Fin 4} {v : Int64} (hd : decode bs pc = .ok (.lload_n k, 1)) (hp : pc + 1 = pc') (hl : Ls[k.val]? = some (.val (.long v))) (kk : Go p.tables e below s Q C S (T.setTop (mkF m pc' Ls (.long v :: st)))) : Go p.tables e below s Q C S (T.setTop (mkF m pc Ls (st))) := by
  subst hp
  exact Go.of (fun _ q => XS.lloadN X.here hx rfl (hb hby hd) hl q) kk
theorem g_lload (X : Stand p l e R s m args below meth c T locs cells slots) (hx : p.tables.exec = Jvm.exec) (hby : c.code = bs) {k : Nat} {v : Int64} (hd : decode bs pc = .ok (.lload k, 2)) (hp : pc + 2 = pc') (hl : Ls[k]? = some (.val (.long v))) (kk : Go p.tables e below s Q C S (T.setTop (mkF m pc' Ls (.long v :: st)))) : Go p.tables e below s Q C S (T.setTop (mkF m pc Ls (st))) := by
  subst hp
  exact Go.of (fun _ q => XS.lload X.here hx rfl (hb hby hd) hl q) kk
theorem g_lstoreN (X : Stand p l e R s m args below meth c T locs cells slots) (hx : p.tables.exec = Jvm.exec) (hby : c.code = bs) {k : Fin 4} {v : Int64} {L' : Array Slot} (hd : decode bs pc = .ok (.lstore_n k, 1)) (hp : pc + 1 = pc') (hl : storeLocals Ls k.val (.long v) = some L') (kk : Go p.tables e below s Q C S (T.setTop (mkF m pc' L' (st)))) : Go p.tables e below s Q C S (T.setTop (mkF m pc Ls (.long v :: st))) := by
  subst hp
  exact Go.of (fun _ q => XS.lstoreN X.here hx rfl (hb hby hd) rfl hl q) kk
theorem g_lstore (X : Stand p l e R s m args below meth c T locs cells slots) (hx : p.tables.exec = Jvm.exec) (hby : c.code = bs) {k : Nat} {v : Int64} {L' : Array Slot} (hd : decode bs pc = .ok (.lstore k, 2)) (hp : pc + 2 = pc') (hl : storeLocals Ls k (.long v) = some L') (kk : Go p.tables e below s Q C S (T.setTop (mkF m pc' L' (st)))) : Go p.tables e below s Q C S (T.setTop (mkF m pc Ls (.long v :: st))) := by
  subst hp
  exact Go.of (fun _ q => XS.lstore X.here hx rfl (hb hby hd) rfl hl q) kk
theorem g_ladd (X : Stand p l e R s m args below meth c T locs cells slots) (hx : p.tables.exec = Jvm.exec) (hby : c.code = bs) {x y z : Int64} (hd : decode bs pc = .ok (.ladd, 1)) (hp : pc + 1 = pc') (hz : x + y = z) (kk : Go p.tables e below s Q C S (T.setTop (mkF m pc' Ls (.long z :: st)))) : Go p.tables e below s Q C S (T.setTop (mkF m pc Ls (.long y :: .long x :: st))) := by
  subst hp; subst hz
  exact Go.of (fun _ q => XS.ladd X.here hx rfl (hb hby hd) rfl q) kk
theorem g_lsub (X : Stand p l e R s m args below meth c T locs cells slots) (hx : p.tables.exec = Jvm.exec) (hby : c.code = bs) {x y z : Int64} (hd : decode bs pc = .ok (.lsub, 1)) (hp : pc + 1 = pc') (hz : x - y = z) (kk : Go p.tables e below s Q C S (T.setTop (mkF m pc' Ls (.long z :: st)))) : Go p.tables e below s Q C S (T.setTop (mkF m pc Ls (.long y :: .long x :: st))) := by
  subst hp; subst hz
  exact Go.of (fun _ q => XS.lsub X.here hx rfl (hb hby hd) rfl q) kk
theorem g_lmul (X : Stand p l e R s m args below meth c T locs cells slots) (hx : p.tables.exec = Jvm.exec) (hby : c.code = bs) {x y z : Int64} (hd : decode bs pc = .ok (.lmul, 1)) (hp : pc + 1 = pc') (hz : x * y = z) (kk : Go p.tables e below s Q C S (T.setTop (mkF m pc' Ls (.long z :: st)))) : Go p.tables e below s Q C S (T.setTop (mkF m pc Ls (.long y :: .long x :: st))) := by
  subst hp; subst hz
  exact Go.of (fun _ q => XS.lmul X.here hx rfl (hb hby hd) rfl q) kk
theorem g_land (X : Stand p l e R s m args below meth c T locs cells slots) (hx : p.tables.exec = Jvm.exec) (hby : c.code = bs) {x y z : Int64} (hd : decode bs pc = .ok (.land, 1)) (hp : pc + 1 = pc') (hz : x &&& y = z) (kk : Go p.tables e below s Q C S (T.setTop (mkF m pc' Ls (.long z :: st)))) : Go p.tables e below s Q C S (T.setTop (mkF m pc Ls (.long y :: .long x :: st))) := by
  subst hp; subst hz
  exact Go.of (fun _ q => XS.land X.here hx rfl (hb hby hd) rfl q) kk
theorem g_lor (X : Stand p l e R s m args below meth c T locs cells slots) (hx : p.tables.exec = Jvm.exec) (hby : c.code = bs) {x y z : Int64} (hd : decode bs pc = .ok (.lor, 1)) (hp : pc + 1 = pc') (hz : x ||| y = z) (kk : Go p.tables e below s Q C S (T.setTop (mkF m pc' Ls (.long z :: st)))) : Go p.tables e below s Q C S (T.setTop (mkF m pc Ls (.long y :: .long x :: st))) := by
  subst hp; subst hz
  exact Go.of (fun _ q => XS.lor X.here hx rfl (hb hby hd) rfl q) kk
theorem g_lxor (X : Stand p l e R s m args below meth c T locs cells slots) (hx : p.tables.exec = Jvm.exec) (hby : c.code = bs) {x y z : Int64} (hd : decode bs pc = .ok (.lxor, 1)) (hp : pc + 1 = pc') (hz : x ^^^ y = z) (kk : Go p.tables e below s Q C S (T.setTop (mkF m pc' Ls (.long z :: st)))) : Go p.tables e below s Q C S (T.setTop (mkF m pc Ls (.long y :: .long x :: st))) := by
  subst hp; subst hz
  exact Go.of (fun _ q => XS.lxor X.here hx rfl (hb hby hd) rfl q) kk
theorem g_lneg (X : Stand p l e R s m args below meth c T locs cells slots) (hx : p.tables.exec = Jvm.exec) (hby : c.code = bs) {x z : Int64} (hd : decode bs pc = .ok (.lneg, 1)) (hp : pc + 1 = pc') (hz : -x = z) (kk : Go p.tables e below s Q C S (T.setTop (mkF m pc' Ls (.long z :: st)))) : Go p.tables e below s Q C S (T.setTop (mkF m pc Ls (.long x :: st))) := by
  subst hp; subst hz
  exact Go.of (fun _ q => XS.lneg X.here hx rfl (hb hby hd) rfl q) kk
theorem g_ldiv (X : Stand p l e R s m args below meth c T locs cells slots) (hx : p.tables.exec = Jvm.exec) (hby : c.code = bs) {x y z : Int64} (hd : decode bs pc = .ok (.ldiv, 1)) (hp : pc + 1 = pc') (hy : y ≠ 0) (hz : x / y = z) (kk : Go p.tables e below s Q C S (T.setTop (mkF m pc' Ls (.long z :: st)))) : Go p.tables e below s Q C S (T.setTop (mkF m pc Ls (.long y :: .long x :: st))) := by
  subst hp; subst hz
  exact Go.of (fun _ q => XS.ldiv X.here hx rfl (hb hby hd) rfl hy q) kk
theorem g_dloadN (X : Stand p l e R s m args below meth c T locs cells slots) (hx : p.tables.exec = Jvm.exec) (hby : c.code = bs) {k : Fin 4} {v : UInt64} (hd : decode bs pc = .ok (.dload_n k, 1)) (hp : pc + 1 = pc') (hl : Ls[k.val]? = some (.val (.double v))) (kk : Go p.tables e below s Q C S (T.setTop (mkF m pc' Ls (.double v :: st)))) : Go p.tables e below s Q C S (T.setTop (mkF m pc Ls (st))) := by
  subst hp
  exact Go.of (fun _ q => XS.dloadN X.here hx rfl (hb hby hd) hl q) kk
theorem g_dload (X : Stand p l e R s m args below meth c T locs cells slots) (hx : p.tables.exec = Jvm.exec) (hby : c.code = bs) {k : Nat} {v : UInt64} (hd : decode bs pc = .ok (.dload k, 2)) (hp : pc + 2 = pc') (hl : Ls[k]? = some (.val (.double v))) (kk : Go p.tables e below s Q C S (T.setTop (mkF m pc' Ls (.double v :: st)))) : Go p.tables e below s Q C S (T.setTop (mkF m pc Ls (st))) := by
  subst hp
  exact Go.of (fun _ q => XS.dload X.here hx rfl (hb hby hd) hl q) kk
theorem g_dstoreN (X : Stand p l e R s m args below meth c T locs cells slots) (hx : p.tables.exec = Jvm.exec) (hby : c.code = bs) {k : Fin 4} {v : UInt64} {L' : Array Slot} (hd : decode bs pc = .ok (.dstore_n k, 1)) (hp : pc + 1 = pc') (hl : storeLocals Ls k.val (.double v) = some L') (kk : Go p.tables e below s Q C S (T.setTop (mkF m pc' L' (st)))) : Go p.tables e below s Q C S (T.setTop (mkF m pc Ls (.double v :: st))) := by
  subst hp
  exact Go.of (fun _ q => XS.dstoreN X.here hx rfl (hb hby hd) rfl hl q) kk
theorem g_dstore (X : Stand p l e R s m args below meth c T locs cells slots) (hx : p.tables.exec = Jvm.exec) (hby : c.code = bs) {k : Nat} {v : UInt64} {L' : Array Slot} (hd : decode bs pc = .ok (.dstore k, 2)) (hp : pc + 2 = pc') (hl : storeLocals Ls k (.double v) = some L') (kk : Go p.tables e below s Q C S (T.setTop (mkF m pc' L' (st)))) : Go p.tables e below s Q C S (T.setTop (mkF m pc Ls (.double v :: st))) := by
  subst hp
  exact Go.of (fun _ q => XS.dstore X.here hx rfl (hb hby hd) rfl hl q) kk
theorem g_irem (X : Stand p l e R s m args below meth c T locs cells slots) (hx : p.tables.exec = Jvm.exec) (hby : c.code = bs) {x y z : Int32} (hd : decode bs pc = .ok (.irem, 1)) (hp : pc + 1 = pc') (hy : y ≠ 0) (hz : x % y = z) (kk : Go p.tables e below s Q C S (T.setTop (mkF m pc' Ls (.int z :: st)))) : Go p.tables e below s Q C S (T.setTop (mkF m pc Ls (.int y :: .int x :: st))) := by
  subst hp; subst hz
  exact Go.of (fun _ q => XS.irem X.here hx rfl (hb hby hd) rfl hy (by rw [irem_mod]; exact q)) kk
theorem g_ishl (X : Stand p l e R s m args below meth c T locs cells slots) (hx : p.tables.exec = Jvm.exec) (hby : c.code = bs) {x z : Int32} {y : Int32} (hd : decode bs pc = .ok (.ishl, 1)) (hp : pc + 1 = pc') (hz : x <<< (y &&& 31) = z) (kk : Go p.tables e below s Q C S (T.setTop (mkF m pc' Ls (.int z :: st)))) : Go p.tables e below s Q C S (T.setTop (mkF m pc Ls (.int y :: .int x :: st))) := by
  subst hp; subst hz
  exact Go.of (fun _ q => XS.ishl X.here hx rfl (hb hby hd) rfl q) kk
theorem g_ishr (X : Stand p l e R s m args below meth c T locs cells slots) (hx : p.tables.exec = Jvm.exec) (hby : c.code = bs) {x z : Int32} {y : Int32} (hd : decode bs pc = .ok (.ishr, 1)) (hp : pc + 1 = pc') (hz : x >>> (y &&& 31) = z) (kk : Go p.tables e below s Q C S (T.setTop (mkF m pc' Ls (.int z :: st)))) : Go p.tables e below s Q C S (T.setTop (mkF m pc Ls (.int y :: .int x :: st))) := by
  subst hp; subst hz
  exact Go.of (fun _ q => XS.ishr X.here hx rfl (hb hby hd) rfl q) kk
theorem g_iushr (X : Stand p l e R s m args below meth c T locs cells slots) (hx : p.tables.exec = Jvm.exec) (hby : c.code = bs) {x z : Int32} {y : Int32} (hd : decode bs pc = .ok (.iushr, 1)) (hp : pc + 1 = pc') (hz : (x.toUInt32 >>> (y &&& 31).toUInt32).toInt32 = z) (kk : Go p.tables e below s Q C S (T.setTop (mkF m pc' Ls (.int z :: st)))) : Go p.tables e below s Q C S (T.setTop (mkF m pc Ls (.int y :: .int x :: st))) := by
  subst hp; subst hz
  exact Go.of (fun _ q => XS.iushr X.here hx rfl (hb hby hd) rfl q) kk
theorem g_lshl (X : Stand p l e R s m args below meth c T locs cells slots) (hx : p.tables.exec = Jvm.exec) (hby : c.code = bs) {x z : Int64} {y : Int32} (hd : decode bs pc = .ok (.lshl, 1)) (hp : pc + 1 = pc') (hz : x <<< (y &&& 0x3f).toInt64 = z) (kk : Go p.tables e below s Q C S (T.setTop (mkF m pc' Ls (.long z :: st)))) : Go p.tables e below s Q C S (T.setTop (mkF m pc Ls (.int y :: .long x :: st))) := by
  subst hp; subst hz
  exact Go.of (fun _ q => XS.lshl X.here hx rfl (hb hby hd) rfl q) kk
theorem g_lshr (X : Stand p l e R s m args below meth c T locs cells slots) (hx : p.tables.exec = Jvm.exec) (hby : c.code = bs) {x z : Int64} {y : Int32} (hd : decode bs pc = .ok (.lshr, 1)) (hp : pc + 1 = pc') (hz : x >>> (y &&& 0x3f).toInt64 = z) (kk : Go p.tables e below s Q C S (T.setTop (mkF m pc' Ls (.long z :: st)))) : Go p.tables e below s Q C S (T.setTop (mkF m pc Ls (.int y :: .long x :: st))) := by
  subst hp; subst hz
  exact Go.of (fun _ q => XS.lshr X.here hx rfl (hb hby hd) rfl q) kk
theorem g_lushr (X : Stand p l e R s m args below meth c T locs cells slots) (hx : p.tables.exec = Jvm.exec) (hby : c.code = bs) {x z : Int64} {y : Int32} (hd : decode bs pc = .ok (.lushr, 1)) (hp : pc + 1 = pc') (hz : (x.toUInt64 >>> (y &&& 0x3f).toInt64.toUInt64).toInt64 = z) (kk : Go p.tables e below s Q C S (T.setTop (mkF m pc' Ls (.long z :: st)))) : Go p.tables e below s Q C S (T.setTop (mkF m pc Ls (.int y :: .long x :: st))) := by
  subst hp; subst hz
  exact Go.of (fun _ q => XS.lushr X.here hx rfl (hb hby hd) rfl q) kk
theorem g_i2l (X : Stand p l e R s m args below meth c T locs cells slots) (hx : p.tables.exec = Jvm.exec) (hby : c.code = bs) {x : Int32} {z : Int64} (hd : decode bs pc = .ok (.i2l, 1)) (hp : pc + 1 = pc') (hz : x.toInt64 = z) (kk : Go p.tables e below s Q C S (T.setTop (mkF m pc' Ls (.long z :: st)))) : Go p.tables e below s Q C S (T.setTop (mkF m pc Ls (.int x :: st))) := by
  subst hp; subst hz
  exact Go.of (fun _ q => XS.i2l X.here hx rfl (hb hby hd) rfl q) kk
theorem g_l2i (X : Stand p l e R s m args below meth c T locs cells slots) (hx : p.tables.exec = Jvm.exec) (hby : c.code = bs) {x : Int64} {z : Int32} (hd : decode bs pc = .ok (.l2i, 1)) (hp : pc + 1 = pc') (hz : x.toInt32 = z) (kk : Go p.tables e below s Q C S (T.setTop (mkF m pc' Ls (.int z :: st)))) : Go p.tables e below s Q C S (T.setTop (mkF m pc Ls (.long x :: st))) := by
  subst hp; subst hz
  exact Go.of (fun _ q => XS.l2i X.here hx rfl (hb hby hd) rfl q) kk
theorem g_i2b (X : Stand p l e R s m args below meth c T locs cells slots) (hx : p.tables.exec = Jvm.exec) (hby : c.code = bs) {x : Int32} {z : Int32} (hd : decode bs pc = .ok (.i2b, 1)) (hp : pc + 1 = pc') (hz : x.toInt8.toInt32 = z) (kk : Go p.tables e below s Q C S (T.setTop (mkF m pc' Ls (.int z :: st)))) : Go p.tables e below s Q C S (T.setTop (mkF m pc Ls (.int x :: st))) := by
  subst hp; subst hz
  exact Go.of (fun _ q => XS.i2b X.here hx rfl (hb hby hd) rfl q) kk
theorem g_i2c (X : Stand p l e R s m args below meth c T locs cells slots) (hx : p.tables.exec = Jvm.exec) (hby : c.code = bs) {x : Int32} {z : Int32} (hd : decode bs pc = .ok (.i2c, 1)) (hp : pc + 1 = pc') (hz : x.toUInt32.toUInt16.toUInt32.toInt32 = z) (kk : Go p.tables e below s Q C S (T.setTop (mkF m pc' Ls (.int z :: st)))) : Go p.tables e below s Q C S (T.setTop (mkF m pc Ls (.int x :: st))) := by
  subst hp; subst hz
  exact Go.of (fun _ q => XS.i2c X.here hx rfl (hb hby hd) rfl q) kk
theorem g_i2s (X : Stand p l e R s m args below meth c T locs cells slots) (hx : p.tables.exec = Jvm.exec) (hby : c.code = bs) {x : Int32} {z : Int32} (hd : decode bs pc = .ok (.i2s, 1)) (hp : pc + 1 = pc') (hz : x.toInt16.toInt32 = z) (kk : Go p.tables e below s Q C S (T.setTop (mkF m pc' Ls (.int z :: st)))) : Go p.tables e below s Q C S (T.setTop (mkF m pc Ls (.int x :: st))) := by
  subst hp; subst hz
  exact Go.of (fun _ q => XS.i2s X.here hx rfl (hb hby hd) rfl q) kk
theorem g_lcmp (X : Stand p l e R s m args below meth c T locs cells slots) (hx : p.tables.exec = Jvm.exec) (hby : c.code = bs) {x y : Int64} (hd : decode bs pc = .ok (.lcmp, 1)) (hp : pc + 1 = pc')  (kk : Go p.tables e below s Q C S (T.setTop (mkF m pc' Ls (.int (lcmpW x y) :: st)))) : Go p.tables e below s Q C S (T.setTop (mkF m pc Ls (.long y :: .long x :: st))) := by
  subst hp
  exact Go.of (fun _ q => XS.lcmp X.here hx rfl (hb hby hd) rfl q) kk
theorem g_aloadN (X : Stand p l e R s m args below meth c T locs cells slots) (hx : p.tables.exec = Jvm.exec) (hby : c.code = bs) {k : Fin 4} {v : Value} (hd : decode bs pc = .ok (.aload_n k, 1)) (hp : pc + 1 = pc') (hl : Ls[k.val]? = some (.val v)) (hr : v.isRef = true) (kk : Go p.tables e below s Q C S (T.setTop (mkF m pc' Ls (v :: st)))) : Go p.tables e below s Q C S (T.setTop (mkF m pc Ls (st))) := by
  subst hp
  exact Go.of (fun _ q => XS.aloadN X.here hx rfl (hb hby hd) hl hr q) kk
theorem g_aload (X : Stand p l e R s m args below meth c T locs cells slots) (hx : p.tables.exec = Jvm.exec) (hby : c.code = bs) {k : Nat} {v : Value} (hd : decode bs pc = .ok (.aload k, 2)) (hp : pc + 2 = pc') (hl : Ls[k]? = some (.val v)) (hr : v.isRef = true) (kk : Go p.tables e below s Q C S (T.setTop (mkF m pc' Ls (v :: st)))) : Go p.tables e below s Q C S (T.setTop (mkF m pc Ls (st))) := by
  subst hp
  exact Go.of (fun _ q => XS.aload X.here hx rfl (hb hby hd) hl hr q) kk
theorem g_astoreN (X : Stand p l e R s m args below meth c T locs cells slots) (hx : p.tables.exec = Jvm.exec) (hby : c.code = bs) {k : Fin 4} {v : Value} {L' : Array Slot} (hd : decode bs pc = .ok (.astore_n k, 1)) (hp : pc + 1 = pc') (hr : v.isRef = true) (hl : storeLocals Ls k.val v = some L') (kk : Go p.tables e below s Q C S (T.setTop (mkF m pc' L' (st)))) : Go p.tables e below s Q C S (T.setTop (mkF m pc Ls (v :: st))) := by
  subst hp
  exact Go.of (fun _ q => XS.astoreN X.here hx rfl (hb hby hd) rfl hr hl q) kk
theorem g_astore (X : Stand p l e R s m args below meth c T locs cells slots) (hx : p.tables.exec = Jvm.exec) (hby : c.code = bs) {k : Nat} {v : Value} {L' : Array Slot} (hd : decode bs pc = .ok (.astore k, 2)) (hp : pc + 2 = pc') (hr : v.isRef = true) (hl : storeLocals Ls k v = some L') (kk : Go p.tables e below s Q C S (T.setTop (mkF m pc' L' (st)))) : Go p.tables e below s Q C S (T.setTop (mkF m pc Ls (v :: st))) := by
  subst hp
  exact Go.of (fun _ q => XS.astore X.here hx rfl (hb hby hd) rfl hr hl q) kk
theorem g_iconst (X : Stand p l e R s m args below meth c T locs cells slots) (hx : p.tables.exec = Jvm.exec) (hby : c.code = bs) {i : Int} {z : Int32} (hd : decode bs pc = .ok (.iconst i, 1)) (hp : pc + 1 = pc') (hz : Int32.ofInt i = z) (kk : Go p.tables e below s Q C S (T.setTop (mkF m pc' Ls (.int z :: st)))) : Go p.tables e below s Q C S (T.setTop (mkF m pc Ls (st))) := by
  subst hp; subst hz
  exact Go.of (fun _ q => XS.iconst X.here hx rfl (hb hby hd) q) kk
theorem g_bipush (X : Stand p l e R s m args below meth c T locs cells slots) (hx : p.tables.exec = Jvm.exec) (hby : c.code = bs) {i : Int} {z : Int32} (hd : decode bs pc = .ok (.bipush i, 2)) (hp : pc + 2 = pc') (hz : (Int8.ofInt i).toInt32 = z) (kk : Go p.tables e below s Q C S (T.setTop (mkF m pc' Ls (.int z :: st)))) : Go p.tables e below s Q C S (T.setTop (mkF m pc Ls (st))) := by
  subst hp; subst hz
  exact Go.of (fun _ q => XS.bipush X.here hx rfl (hb hby hd) q) kk
theorem g_sipush (X : Stand p l e R s m args below meth c T locs cells slots) (hx : p.tables.exec = Jvm.exec) (hby : c.code = bs) {i : Int} {z : Int32} (hd : decode bs pc = .ok (.sipush i, 3)) (hp : pc + 3 = pc') (hz : (Int16.ofInt i).toInt32 = z) (kk : Go p.tables e below s Q C S (T.setTop (mkF m pc' Ls (.int z :: st)))) : Go p.tables e below s Q C S (T.setTop (mkF m pc Ls (st))) := by
  subst hp; subst hz
  exact Go.of (fun _ q => XS.sipush X.here hx rfl (hb hby hd) q) kk
theorem g_aconst_null (X : Stand p l e R s m args below meth c T locs cells slots) (hx : p.tables.exec = Jvm.exec) (hby : c.code = bs)  (hd : decode bs pc = .ok (.aconst_null, 1)) (hp : pc + 1 = pc')  (kk : Go p.tables e below s Q C S (T.setTop (mkF m pc' Ls (.null :: st)))) : Go p.tables e below s Q C S (T.setTop (mkF m pc Ls (st))) := by
  subst hp
  exact Go.of (fun _ q => XS.aconstNull X.here hx rfl (hb hby hd) q) kk
theorem g_iinc (X : Stand p l e R s m args below meth c T locs cells slots) (hx : p.tables.exec = Jvm.exec) (hby : c.code = bs) {k : Nat} {i : Int} {x : Int32} {L' : Array Slot} (hd : decode bs pc = .ok (.iinc k i, 3)) (hp : pc + 3 = pc') (hl : Ls[k]? = some (.val (.int x))) (hl' : storeLocals Ls k (.int (x + Int32.ofInt i)) = some L') (kk : Go p.tables e below s Q C S (T.setTop (mkF m pc' L' (st)))) : Go p.tables e below s Q C S (T.setTop (mkF m pc Ls (st))) := by
  subst hp
  exact Go.of (fun _ q => XS.iinc X.here hx rfl (hb hby hd) hl hl' q) kk
theorem g_dup (X : Stand p l e R s m args below meth c T locs cells slots) (hx : p.tables.exec = Jvm.exec) (hby : c.code = bs) {v : Value} (hd : decode bs pc = .ok (.dup, 1)) (hp : pc + 1 = pc') (hc : v.category = 1) (kk : Go p.tables e below s Q C S (T.setTop (mkF m pc' Ls (v :: v :: st)))) : Go p.tables e below s Q C S (T.setTop (mkF m pc Ls (v :: st))) := by
  subst hp
  exact Go.of (fun _ q => XS.dup X.here hx rfl (hb hby hd) rfl hc q) kk
theorem g_pop (X : Stand p l e R s m args below meth c T locs cells slots) (hx : p.tables.exec = Jvm.exec) (hby : c.code = bs) {v : Value} (hd : decode bs pc = .ok (.pop, 1)) (hp : pc + 1 = pc') (hc : v.category = 1) (kk : Go p.tables e below s Q C S (T.setTop (mkF m pc' Ls (st)))) : Go p.tables e below s Q C S (T.setTop (mkF m pc Ls (v :: st))) := by
  subst hp
  exact Go.of (fun _ q => XS.pop X.here hx rfl (hb hby hd) rfl hc q) kk
theorem g_dup_x1 (X : Stand p l e R s m args below meth c T locs cells slots) (hx : p.tables.exec = Jvm.exec) (hby : c.code = bs) {v w : Value} (hd : decode bs pc = .ok (.dup_x1, 1)) (hp : pc + 1 = pc') (hc : v.category = 1) (hc' : w.category = 1) (kk : Go p.tables e below s Q C S (T.setTop (mkF m pc' Ls (v :: w :: v :: st)))) : Go p.tables e below s Q C S (T.setTop (mkF m pc Ls (v :: w :: st))) := by
  subst hp
  exact Go.of (fun _ q => XS.dupX1 X.here hx rfl (hb hby hd) rfl hc hc' q) kk
theorem g_dup2 (X : Stand p l e R s m args below meth c T locs cells slots) (hx : p.tables.exec = Jvm.exec) (hby : c.code = bs) {v w : Value} (hd : decode bs pc = .ok (.dup2, 1)) (hp : pc + 1 = pc') (hc : v.category = 1) (hc' : w.category = 1) (kk : Go p.tables e below s Q C S (T.setTop (mkF m pc' Ls (v :: w :: v :: w :: st)))) : Go p.tables e below s Q C S (T.setTop (mkF m pc Ls (v :: w :: st))) := by
  subst hp
  exact Go.of (fun _ q => Jvm.Free.XT.dup2 X.here hx rfl (hb hby hd) rfl hc hc' q) kk
theorem g_goto (X : Stand p l e R s m args below meth c T locs cells slots) (hx : p.tables.exec = Jvm.exec) (hby : c.code = bs) {o : Int} (hd : decode bs pc = .ok (.goto o, 3)) (h0 : 0 ≤ (pc : Int) + o) (hp : ((pc : Int) + o).toNat = pc') (kk : Go p.tables e below s Q C S (T.setTop (mkF m pc' Ls st))) : Go p.tables e below s Q C S (T.setTop (mkF m pc Ls st)) :=
  Go.of (fun _ q => XS.goto X.here hx rfl (pc0 := pc) (pc' := pc') rfl (hb hby hd) h0 hp q) kk
theorem g_ifYes (X : Stand p l e R s m args below meth c T locs cells slots) (hx : p.tables.exec = Jvm.exec) (hby : c.code = bs) {cd : ClassFile.Cond} {x : Int32} {o : Int} (hd : decode bs pc = .ok (.ifCond cd o, 3)) (hc : if_icmp.holds cd x 0 = true) (h0 : 0 ≤ (pc : Int) + o) (hp : ((pc : Int) + o).toNat = pc') (kk : Go p.tables e below s Q C S (T.setTop (mkF m pc' Ls st))) : Go p.tables e below s Q C S (T.setTop (mkF m pc Ls (.int x :: st))) :=
  Go.of (fun _ q => XS.ifYes X.here hx rfl (pc0 := pc) (pc' := pc') rfl (hb hby hd) rfl ((if0 _ _).trans hc) h0 hp q) kk
theorem g_ifNo (X : Stand p l e R s m args below meth c T locs cells slots) (hx : p.tables.exec = Jvm.exec) (hby : c.code = bs) {cd : ClassFile.Cond} {x : Int32} {o : Int} (hd : decode bs pc = .ok (.ifCond cd o, 3)) (hc : if_icmp.holds cd x 0 = false) (hp : pc + 3 = pc') (kk : Go p.tables e below s Q C S (T.setTop (mkF m pc' Ls st))) : Go p.tables e below s Q C S (T.setTop (mkF m pc Ls (.int x :: st))) := by
  subst hp
  exact Go.of (fun _ q => XS.ifNo X.here hx rfl (hb hby hd) rfl ((if0 _ _).trans hc) q) kk
theorem g_icmpYes (X : Stand p l e R s m args below meth c T locs cells slots) (hx : p.tables.exec = Jvm.exec) (hby : c.code = bs) {cd : ClassFile.Cond} {x y : Int32} {o : Int} (hd : decode bs pc = .ok (.if_icmp cd o, 3)) (hc : if_icmp.holds cd x y = true) (h0 : 0 ≤ (pc : Int) + o) (hp : ((pc : Int) + o).toNat = pc') (kk : Go p.tables e below s Q C S (T.setTop (mkF m pc' Ls st))) : Go p.tables e below s Q C S (T.setTop (mkF m pc Ls (.int y :: .int x :: st))) :=
  Go.of (fun _ q => XS.icmpYes X.here hx rfl (pc0 := pc) (pc' := pc') rfl (hb hby hd) rfl hc h0 hp q) kk
theorem g_icmpNo (X : Stand p l e R s m args below meth c T locs cells slots) (hx : p.tables.exec = Jvm.exec) (hby : c.code = bs) {cd : ClassFile.Cond} {x y : Int32} {o : Int} (hd : decode bs pc = .ok (.if_icmp cd o, 3)) (hc : if_icmp.holds cd x y = false) (hp : pc + 3 = pc') (kk : Go p.tables e below s Q C S (T.setTop (mkF m pc' Ls st))) : Go p.tables e below s Q C S (T.setTop (mkF m pc Ls (.int y :: .int x :: st))) := by
  subst hp
  exact Go.of (fun _ q => XS.icmpNo X.here hx rfl (hb hby hd) rfl hc q) kk
theorem g_ldcI (X : Stand p l e R s m args below meth c T locs cells slots) (hx : p.tables.exec = Jvm.exec) (hby : c.code = bs) (hZ : Z.Warmed39 s.vm) (hown : s.vm.findClass own = some m.cls) {i : Nat} {z : Int32} (w : (Cond.constant own i z).before a0 Z = true) (hd : decode bs pc = .ok (.ldc i, 2)) (hp : pc + 2 = pc') (kk : Go p.tables e below s Q C S (T.setTop (mkF m pc' Ls (.int z :: st)))) : Go p.tables e below s Q C S (T.setTop (mkF m pc Ls st)) := by
  subst hp
  exact Go.of (fun _ q => X.ldcInt hx hown (mvT hZ w) (g := mkF m pc Ls st) rfl (hb hby hd) _ q) kk
theorem g_ldcwI (X : Stand p l e R s m args below meth c T locs cells slots) (hx : p.tables.exec = Jvm.exec) (hby : c.code = bs) (hZ : Z.Warmed39 s.vm) (hown : s.vm.findClass own = some m.cls) {i : Nat} {z : Int32} (w : (Cond.constant own i z).before a0 Z = true) (hd : decode bs pc = .ok (.ldc_w i, 3)) (hp : pc + 3 = pc') (kk : Go p.tables e below s Q C S (T.setTop (mkF m pc' Ls (.int z :: st)))) : Go p.tables e below s Q C S (T.setTop (mkF m pc Ls st)) := by
  subst hp
  exact Go.of (fun _ q => X.ldcwInt hx hown (mvT hZ w) (g := mkF m pc Ls st) rfl (hb hby hd) _ q) kk
theorem g_ldcL (X : Stand p l e R s m args below meth c T locs cells slots) (hx : p.tables.exec = Jvm.exec) (hby : c.code = bs) (hZ : Z.Warmed39 s.vm) (hown : s.vm.findClass own = some m.cls) {i : Nat} {z : Int64} (w : (Cond.constantLong own i z).before a0 Z = true) (hd : decode bs pc = .ok (.ldc2_w i, 3)) (hp : pc + 3 = pc') (kk : Go p.tables e below s Q C S (T.setTop (mkF m pc' Ls (.long z :: st)))) : Go p.tables e below s Q C S (T.setTop (mkF m pc Ls st)) := by
  subst hp
  exact Go.of (fun _ q => X.ldc2Long hx hown (mvT hZ w) (g := mkF m pc Ls st) rfl (hb hby hd) _ q) kk
theorem g_ldcD (X : Stand p l e R s m args below meth c T locs cells slots) (hx : p.tables.exec = Jvm.exec) (hby : c.code = bs) (hZ : Z.Warmed39 s.vm) (hown : s.vm.findClass own = some m.cls) {i : Nat} {z : UInt64} (w : (Cond.constantDouble own i z).before a0 Z = true) (hd : decode bs pc = .ok (.ldc2_w i, 3)) (hp : pc + 3 = pc') (kk : Go p.tables e below s Q C S (T.setTop (mkF m pc' Ls (.double z :: st)))) : Go p.tables e below s Q C S (T.setTop (mkF m pc Ls st)) := by
  subst hp
  exact Go.of (fun _ q => X.ldc2DoubleC hx hown (mvT hZ w) (g := mkF m pc Ls st) rfl (hb hby hd) _ q) kk
theorem g_getf (X : Stand p l e R s m args below meth c T locs cells slots) (hx : p.tables.exec = Jvm.exec) (hby : c.code = bs) (hZ : Z.Warmed39 s.vm) {R0 O n d host : String} {i : Nat} (hown : s.vm.findClass own = some m.cls) (w : (Cond.fieldLink own i R0 n d).before a0 Z = true ∨ (Cond.fieldLinkNest own i R0 n d host).before a0 Z = true) (via : Via Z R0 O n d) (eT : T.heap = h) {a : Addr} {v : Value} (F : Fld Z h a O n d v) (hd : decode bs pc = .ok (.getfield i, 3)) (hp : pc + 3 = pc') (kk : ∀ T', Stand p l e R s m args below meth c T' locs cells slots → T'.heap = h → Go p.tables e below s Q C S (T'.setTop (mkF m pc' Ls (v :: st)))) : Go p.tables e below s Q C S (T.setTop (mkF m pc Ls (.ref a :: st))) := by
  subst hp
  obtain ⟨T', X', e', q⟩ := getF X hx hZ hown w via eT F (g := mkF m pc Ls (.ref a :: st)) rfl rfl (hb hby hd)
  exact Go.of q (kk T' X' e')
theorem g_putf (X : Stand p l e R s m args below meth c T locs cells slots) (hx : p.tables.exec = Jvm.exec) (hby : c.code = bs) (hZ : Z.Warmed39 s.vm) {R0 O n d host : String} {i : Nat} (hown : s.vm.findClass own = some m.cls) (w : (Cond.fieldLink own i R0 n d).before a0 Z = true ∨ (Cond.fieldLinkNest own i R0 n d host).before a0 Z = true) (via : Via Z R0 O n d) (eT : T.heap = h) {a : Addr} {v old : Value} {K : String} {kk' : Nat} {ty : FieldType} (F : Fld Z h a O n d old) (E : Exa Z h a K) (L : (Cond.lays K O n d).before a0 Z = true ∨ ((Cond.laysFinal K O n d).before a0 Z = true ∧ own = O ∧ meth.name = "<init>")) (wi : (Cond.instantiable K kk').before a0 Z = true) (hty : parseFieldDescriptor d = some ty) (hn : narrow ty v = v) (hf : fits ty v = true) (hd : decode bs pc = .ok (.putfield i, 3)) (hp : pc + 3 = pc')
    (kk : ∀ T' h', Stand p l e R s m args below meth c T' (locs ++ [⟨a, Jvm.RoadKit.slotOf Z O n d⟩]) cells slots → T'.heap = h' → Wr h h' a (Jvm.RoadKit.slotOf Z O n d) v → Fld Z h' a O n d v → Go p.tables e below s Q C S (T'.setTop (mkF m pc' Ls st))) : Go p.tables e below s Q C S (T.setTop (mkF m pc Ls (v :: .ref a :: st))) := by
  subst hp
  obtain ⟨T', h', X', e', W, q⟩ := putF X hx hZ hown w via eT F E L wi hty hn hf (g := mkF m pc Ls (v :: .ref a :: st)) rfl rfl (hb hby hd)
  exact Go.of q (kk T' h' X' e' W (F.same W))
theorem g_new (X : Stand p l e R s m args below meth c T locs cells slots) (hx : p.tables.exec = Jvm.exec) (hby : c.code = bs) (hZ : Z.Warmed39 s.vm) {K : String} {i n : Nat} (hown : s.vm.findClass own = some m.cls) (w : (Cond.classLink own i K).before a0 Z = true) (wi : (Cond.instantiable K n).before a0 Z = true) (wz : (Cond.initialized K).before a0 Z = true) (eT : T.heap = h) (hd : decode bs pc = .ok (.new i, 3)) (hp : pc + 3 = pc') (hc : cells + 1 ≤ R.cells) (hl : slots + n ≤ R.slots)
    (kk : ∀ T' h' b, Stand p l e R s m args below meth c T' locs (cells + 1) (slots + n) → T'.heap = h' → Ext h h' → b = h.size → Exa Z h' b K → (∀ {O nm d : String} {ty : FieldType}, Laid Z a0 K O nm d → parseFieldDescriptor d = some ty → Fld Z h' b O nm d (defaultValue ty)) → Go p.tables e below s Q C S (T'.setTop (mkF m pc' Ls (.ref b :: st)))) : Go p.tables e below s Q C S (T.setTop (mkF m pc Ls st)) := by
  subst hp
  obtain ⟨T', h', X', e', E, A, D, -, q⟩ := newO X hx hZ hown w wi wz eT (g := mkF m pc Ls st) rfl (hb hby hd) hc hl
  exact Go.of q (kk T' h' h.size X' e' E rfl A D)
theorem g_init (X : Stand p l e R s m args below meth c T locs cells slots) (hx : p.tables.exec = Jvm.exec) (hby : c.code = bs) (hZ : Z.Warmed39 s.vm) {i : Nat} (hown : s.vm.findClass own = some m.cls) (w1 : (Cond.methodLink own i Lib.objectInit).before a0 Z = true) (w2 : (Cond.instanceMethod Lib.objectInit).before a0 Z = true) (w3 : (Cond.code Lib.objectInit ⟨#[0xb1]⟩ 1 none).before a0 Z = true) (eT : T.heap = h) {a : Addr} {W : Nat} (hsz : Ls.size = c.maxLocals) (hd : decode bs pc = .ok (.invokespecial i, 3)) (hp : pc + 3 = pc') (hf : 1 ≤ R.frames) (hW : (st.map fun v => v.category).sum = W) (hl : W + 12 ≤ R.locals) (kk : ∀ T', Stand p l e R s m args below meth c T' locs cells slots → T'.heap = h → Go p.tables e below s Q C S (T'.setTop (mkF m pc' Ls st))) : Go p.tables e below s Q C S (T.setTop (mkF m pc Ls (.ref a :: st))) := by
  subst hp
  obtain ⟨T', X', e', q⟩ := initO X hx hZ hown w1 w2 w3 eT (g := mkF m pc Ls (.ref a :: st)) rfl hsz rfl (hb hby hd) hf (W := W) (by show 2 * 0 + _ ≤ _; rw [hW]; omega) hl
  exact Go.of q (kk T' X' e')
end Steps1
end Jvm.OwnKit
namespace Jvm.Pilot.@@N@@
open Jvm Jvm.ClassFile Sem Op Lib Jvm.Free Jvm.Stand Jvm.LawKit Jvm.RoadKit Jvm.OwnKit Bundle Jvm.Pilot.@@N@@.Jvm.D
theorem wi {a0 : Array Value} {Z : State} (hw : ∀ d ∈ tables_1, d.before a0 Z = true) {d : Jvm.Cond} (i : Nat) (h : tables_1[i]? = some d) : d.before a0 Z = true := hw d (List.mem_of_getElem? h)
def own_min (a b : Int32) : Int32 := if b.toInt < a.toInt then b else a
def own_text (c : Int32) : Int32 := if ¬ ((c.toInt < 32 ∧ c.toInt ≠ 9) ∨ (127 ≤ c.toInt ∧ c.toInt ≤ 159) ∨ (64976 ≤ c.toInt ∧ c.toInt ≤ 65007) ∨ (c &&& (65534 : Int32)).toInt = 65534) then 1 else 0
def own_exp (c : Int32) : Int32 := if c.toInt = 9 ∨ ¬ (c.toInt ≤ 31 ∨ (127 ≤ c.toInt ∧ c.toInt ≤ 159) ∨ (64976 ≤ c.toInt ∧ c.toInt ≤ 65007) ∨ (c % (65536 : Int32)).toInt = 65534 ∨ (c % (65536 : Int32)).toInt = 65535) then 1 else 0
theorem own_and (n : Nat) : n &&& 65534 = 2 * (n / 2 % 32768) := by
  have h1 : (n &&& 65534) / 2 = n / 2 &&& 32767 := Nat.shiftRight_and_distrib (a := n) (b := 65534) (i := 1)
  have h2 : (n &&& 65534) % 2 = 0 := by
    have := Nat.and_mod_two_pow (a := n) (b := 65534) (n := 1)
    simpa using this
  have h3 : n / 2 &&& 32767 = n / 2 % 32768 := Nat.and_two_pow_sub_one_eq_mod (n / 2) 15
  omega
theorem own_mask (c : Int32) (h : 0 ≤ c.toInt) : (c &&& (65534 : Int32)).toInt = 2 * (c.toInt / 2 % 32768) := by
  have e1 : c.toInt = (c.toBitVec.toNat : Int) := by
    have : c.toInt = c.toBitVec.toInt := rfl
    rw [this, BitVec.toInt_eq_toNat_cond]; rw [this, BitVec.toInt_eq_toNat_cond] at h; split <;> split at h <;> omega
  have e2 : (c &&& (65534 : Int32)).toInt = ((c.toBitVec.toNat &&& 65534 : Nat) : Int) := by
    have : (c &&& (65534 : Int32)).toInt = (c.toBitVec &&& 65534#32).toInt := rfl
    have h2 : (c.toBitVec &&& 65534#32).toNat = c.toBitVec.toNat &&& 65534 := by rw [BitVec.toNat_and]; rfl
    have h3 : c.toBitVec.toNat &&& 65534 ≤ 65534 := Nat.and_le_right
    rw [this, BitVec.toInt_eq_toNat_cond, h2, if_pos (by omega)]
  rw [e1, e2, own_and]; omega
theorem own_eq (c : Int32) (h : 0 ≤ c.toInt) : own_text c = own_exp c := by
  have h1 := own_mask c h
  have h2 := (c_irem c 65536 65536 rfl).1 h
  unfold own_text own_exp
  split <;> split <;> first | rfl | (exfalso; omega)
theorem d1_0 : decode jdk_29_method_69_code 0 = .ok (.iload_n 0, 1) := by decide +kernel
theorem d1_1 : decode jdk_29_method_69_code 1 = .ok (.iload_n 1, 1) := by decide +kernel
theorem d1_2 : decode jdk_29_method_69_code 2 = .ok (.if_icmp .gt 7, 3) := by decide +kernel
theorem d1_9 : decode jdk_29_method_69_code 9 = .ok (.iload_n 1, 1) := by decide +kernel
theorem d1_10 : decode jdk_29_method_69_code 10 = .ok (.ireturn, 1) := by decide +kernel
theorem d1_5 : decode jdk_29_method_69_code 5 = .ok (.iload_n 0, 1) := by decide +kernel
theorem d1_6 : decode jdk_29_method_69_code 6 = .ok (.goto 4, 3) := by decide +kernel
theorem ef_rm1 (m : MethodId) (x0 : Int32) (x1 : Int32) : entryFrame m #[(.int x0), (.int x1)] 2 = mkF m 0 #[.val (.int x0), .val (.int x1)] [] := by first | (simp [entryFrame, mkF, argsToLocals, Value.category]; done) | rfl
set_option maxRecDepth 65536 in
set_option maxHeartbeats 40000000 in
theorem rm1 (l : Launch) (Z : State) (a0 : Array Value) (hw : ∀ d ∈ tables_1, d.before a0 Z = true) (a1 a2 : Int32) (h0 : Heap) (n0 : Nat) (Z0 : n0 ≤ h0.size)  :
    Con l Z (⟨"java/lang/Math", "min", "(II)I"⟩ : MethodName) jdk_29_method_69_code 2 (some .int) ({ frames := 0, cells := 0, slots := 0, locals := 0 } : Room) #[(.int a1), (.int a2)] h0 (fun v h L => v = some (.int (own_min a1 a2)) ∧ Fr n0 L ∧ h = h0) := by
  refine meet (y := (⟨"java/lang/Math", "min", "(II)I"⟩ : MethodName)) (Q := fun v h L => v = some (.int (own_min a1 a2)) ∧ Fr n0 L ∧ h = h0) (Jvm.Free.JP.mathPlain rfl (by decide +kernel)) (fun m => ef_rm1 m a1 a2) ?_
  intro p e s m below meth c T0 hx hby hml hZ hown hnm hret hlk X0 e0
  have N0 := Fr.nil n0
  refine g_iloadN X0 hx hby d1_0 (pc' := 1) rfl rfl ?_
  refine g_iloadN X0 hx hby d1_1 (pc' := 2) rfl rfl ?_
  by_cases hc2 : a2.toInt < a1.toInt
  · refine g_icmpYes X0 hx hby d1_2 (pc' := 9) (tlt (show a2 < a1 from Int32.lt_iff_toInt_lt.mpr hc2)).2.2.1 (by decide) (by decide) ?_
    refine g_iloadN X0 hx hby d1_9 (pc' := 10) rfl rfl ?_
    refine Go.retI X0 hx hlk hret (hb hby d1_10) (by decide) (by decide) ?_
    exact ⟨by rw [own_min, if_pos]; assumption, N0, e0⟩
  · refine g_icmpNo X0 hx hby d1_2 (pc' := 5) (flt (show ¬ (a2 < a1) from fun q => hc2 (Int32.lt_iff_toInt_lt.mp q))).2.2.1 rfl ?_
    refine g_iloadN X0 hx hby d1_5 (pc' := 6) rfl rfl ?_
    refine g_goto X0 hx hby d1_6 (pc' := 10) (by decide) (by decide) ?_
    refine Go.retI X0 hx hlk hret (hb hby d1_10) (by decide) (by decide) ?_
    exact ⟨by rw [own_min, if_neg]; assumption, N0, e0⟩
theorem d2_0 : decode prog_5_method_3_code 0 = .ok (.iload_n 0, 1) := by decide +kernel
theorem d2_1 : decode prog_5_method_3_code 1 = .ok (.bipush 32, 2) := by decide +kernel
theorem d2_3 : decode prog_5_method_3_code 3 = .ok (.if_icmp .ge 9, 3) := by decide +kernel
theorem d2_6 : decode prog_5_method_3_code 6 = .ok (.iload_n 0, 1) := by decide +kernel
theorem d2_7 : decode prog_5_method_3_code 7 = .ok (.bipush 9, 2) := by decide +kernel
theorem d2_9 : decode prog_5_method_3_code 9 = .ok (.if_icmp .ne 16, 3) := by decide +kernel
theorem d2_12 : decode prog_5_method_3_code 12 = .ok (.iload_n 0, 1) := by decide +kernel
theorem d2_13 : decode prog_5_method_3_code 13 = .ok (.bipush 127, 2) := by decide +kernel
theorem d2_15 : decode prog_5_method_3_code 15 = .ok (.if_icmp .lt 14, 3) := by decide +kernel
theorem d2_29 : decode prog_5_method_3_code 29 = .ok (.iconst 0, 1) := by decide +kernel
theorem d2_30 : decode prog_5_method_3_code 30 = .ok (.istore_n 1, 1) := by decide +kernel
theorem d2_31 : decode prog_5_method_3_code 31 = .ok (.iload_n 0, 1) := by decide +kernel
theorem d2_32 : decode prog_5_method_3_code 32 = .ok (.ldc 41, 2) := by decide +kernel
theorem d2_34 : decode prog_5_method_3_code 34 = .ok (.if_icmp .lt 9, 3) := by decide +kernel
theorem d2_43 : decode prog_5_method_3_code 43 = .ok (.iload_n 0, 1) := by decide +kernel
theorem d2_44 : decode prog_5_method_3_code 44 = .ok (.ldc 43, 2) := by decide +kernel
theorem d2_46 : decode prog_5_method_3_code 46 = .ok (.iand, 1) := by decide +kernel
theorem d2_47 : decode prog_5_method_3_code 47 = .ok (.ldc 43, 2) := by decide +kernel
theorem d2_49 : decode prog_5_method_3_code 49 = .ok (.if_icmp .ne 7, 3) := by decide +kernel
theorem d2_52 : decode prog_5_method_3_code 52 = .ok (.iconst 1, 1) := by decide +kernel
theorem d2_53 : decode prog_5_method_3_code 53 = .ok (.goto 4, 3) := by decide +kernel
theorem d2_57 : decode prog_5_method_3_code 57 = .ok (.istore_n 2, 1) := by decide +kernel
theorem d2_58 : decode prog_5_method_3_code 58 = .ok (.iload_n 1, 1) := by decide +kernel
theorem d2_59 : decode prog_5_method_3_code 59 = .ok (.ifCond .ne 11, 3) := by decide +kernel
theorem d2_62 : decode prog_5_method_3_code 62 = .ok (.iload_n 2, 1) := by decide +kernel
theorem d2_63 : decode prog_5_method_3_code 63 = .ok (.ifCond .ne 7, 3) := by decide +kernel
theorem d2_70 : decode prog_5_method_3_code 70 = .ok (.iconst 0, 1) := by decide +kernel
theorem d2_71 : decode prog_5_method_3_code 71 = .ok (.ireturn, 1) := by decide +kernel
theorem d2_56 : decode prog_5_method_3_code 56 = .ok (.iconst 0, 1) := by decide +kernel
theorem d2_66 : decode prog_5_method_3_code 66 = .ok (.iconst 1, 1) := by decide +kernel
theorem d2_67 : decode prog_5_method_3_code 67 = .ok (.goto 4, 3) := by decide +kernel
theorem d2_25 : decode prog_5_method_3_code 25 = .ok (.iconst 1, 1) := by decide +kernel
theorem d2_26 : decode prog_5_method_3_code 26 = .ok (.goto 4, 3) := by decide +kernel
theorem d2_18 : decode prog_5_method_3_code 18 = .ok (.iload_n 0, 1) := by decide +kernel
theorem d2_19 : decode prog_5_method_3_code 19 = .ok (.sipush 159, 3) := by decide +kernel
theorem d2_22 : decode prog_5_method_3_code 22 = .ok (.if_icmp .gt 7, 3) := by decide +kernel
theorem d2_37 : decode prog_5_method_3_code 37 = .ok (.iload_n 0, 1) := by decide +kernel
theorem d2_38 : decode prog_5_method_3_code 38 = .ok (.ldc 42, 2) := by decide +kernel
theorem d2_40 : decode prog_5_method_3_code 40 = .ok (.if_icmp .le 12, 3) := by decide +kernel
theorem ef_rm2 (m : MethodId) (x0 : Int32) : entryFrame m #[(.int x0)] 3 = mkF m 0 #[.val (.int x0), .unset, .unset] [] := by first | (simp [entryFrame, mkF, argsToLocals, Value.category]; done) | rfl
theorem pn_trimwire_catalog_Names : plainName "trimwire/catalog/Names" = true := by first | (simp [plainName, overriddenIn]; done) | decide +kernel
set_option maxRecDepth 65536 in
set_option maxHeartbeats 40000000 in
theorem rm2 (l : Launch) (Z : State) (a0 : Array Value) (hw : ∀ d ∈ tables_1, d.before a0 Z = true) (c1 : Int32) (h0 : Heap) (n0 : Nat) (Z0 : n0 ≤ h0.size)  :
    Con l Z (⟨"trimwire/catalog/Names", "isTextCharacter", "(I)Z"⟩ : MethodName) prog_5_method_3_code 3 (some .boolean) ({ frames := 0, cells := 0, slots := 0, locals := 0 } : Room) #[(.int c1)] h0 (fun v h L => v = some (.int (own_text c1)) ∧ Fr n0 L ∧ h = h0) := by
  refine meet (y := (⟨"trimwire/catalog/Names", "isTextCharacter", "(I)Z"⟩ : MethodName)) (Q := fun v h L => v = some (.int (own_text c1)) ∧ Fr n0 L ∧ h = h0) (plainFor_of_name pn_trimwire_catalog_Names) (fun m => ef_rm2 m c1) ?_
  intro p e s m below meth c T0 hx hby hml hZ hown hnm hret hlk X0 e0
  have N0 := Fr.nil n0
  refine g_iloadN X0 hx hby d2_0 (pc' := 1) rfl rfl ?_
  refine g_bipush X0 hx hby d2_1 (pc' := 3) rfl (z := (32 : Int32)) rfl ?_
  by_cases hc3 : c1.toInt < (32 : Int)
  · refine g_icmpNo X0 hx hby d2_3 (pc' := 6) (tlt (show c1 < (32 : Int32) from Int32.lt_iff_toInt_lt.mpr hc3)).2.1 rfl ?_
    refine g_iloadN X0 hx hby d2_6 (pc' := 7) rfl rfl ?_
    refine g_bipush X0 hx hby d2_7 (pc' := 9) rfl (z := (9 : Int32)) rfl ?_
    by_cases hc9 : c1.toInt = (9 : Int)
    · refine g_icmpNo X0 hx hby d2_9 (pc' := 12) (teq (show c1 = (9 : Int32) from Int32.toInt_inj.mp hc9)).2 rfl ?_
      refine g_iloadN X0 hx hby d2_12 (pc' := 13) rfl rfl ?_
      refine g_bipush X0 hx hby d2_13 (pc' := 15) rfl (z := (127 : Int32)) rfl ?_
      have hc15 : c1.toInt < (127 : Int) := by omega
      refine g_icmpYes X0 hx hby d2_15 (pc' := 29) (tlt (show c1 < (127 : Int32) from Int32.lt_iff_toInt_lt.mpr hc15)).1 (by decide) (by decide) ?_
      refine g_iconst X0 hx hby d2_29 (pc' := 30) rfl (z := (0 : Int32)) rfl ?_
      refine g_istoreN X0 hx hby d2_30 (pc' := 31) rfl (L' := #[.val (.int c1), .val (.int (0 : Int32)), .unset]) rfl ?_
      refine g_iloadN X0 hx hby d2_31 (pc' := 32) rfl rfl ?_
      refine g_ldcI X0 hx hby hZ hown (wi hw 12 rfl) d2_32 (pc' := 34) rfl ?_
      have hc34 : c1.toInt < (64976 : Int) := by omega
      refine g_icmpYes X0 hx hby d2_34 (pc' := 43) (tlt (show c1 < (64976 : Int32) from Int32.lt_iff_toInt_lt.mpr hc34)).1 (by decide) (by decide) ?_
      refine g_iloadN X0 hx hby d2_43 (pc' := 44) rfl rfl ?_
      refine g_ldcI X0 hx hby hZ hown (wi hw 14 rfl) d2_44 (pc' := 46) rfl ?_
      refine g_iand X0 hx hby d2_46 (pc' := 47) rfl rfl ?_
      refine g_ldcI X0 hx hby hZ hown (wi hw 14 rfl) d2_47 (pc' := 49) rfl ?_
      by_cases hc49 : (c1 &&& (65534 : Int32)).toInt = (65534 : Int)
      · refine g_icmpNo X0 hx hby d2_49 (pc' := 52) (teq (show (c1 &&& (65534 : Int32)) = (65534 : Int32) from Int32.toInt_inj.mp hc49)).2 rfl ?_
        refine g_iconst X0 hx hby d2_52 (pc' := 53) rfl (z := (1 : Int32)) rfl ?_
        refine g_goto X0 hx hby d2_53 (pc' := 57) (by decide) (by decide) ?_
        refine g_istoreN X0 hx hby d2_57 (pc' := 58) rfl (L' := #[.val (.int c1), .val (.int (0 : Int32)), .val (.int (1 : Int32))]) rfl ?_
        refine g_iloadN X0 hx hby d2_58 (pc' := 59) rfl rfl ?_
        have hc59 : (0 : Int) = (0 : Int) := by decide
        refine g_ifNo X0 hx hby d2_59 (pc' := 62) (teq (show (0 : Int32) = (0 : Int32) from Int32.toInt_inj.mp hc59)).2 rfl ?_
        refine g_iloadN X0 hx hby d2_62 (pc' := 63) rfl rfl ?_
        have hc63 : ¬ ((1 : Int) = (0 : Int)) := by decide
        refine g_ifYes X0 hx hby d2_63 (pc' := 70) (feq (show ¬ ((1 : Int32) = (0 : Int32)) from fun q => hc63 (congrArg Int32.toInt q))).2 (by decide) (by decide) ?_
        refine g_iconst X0 hx hby d2_70 (pc' := 71) rfl (z := (0 : Int32)) rfl ?_
        refine Go.retZ X0 hx hlk hret (by simp) (hb hby d2_71) (by decide) (by decide) ?_
        exact ⟨by rw [own_text, if_neg (by omega)]; rfl, N0, e0⟩
      · refine g_icmpYes X0 hx hby d2_49 (pc' := 56) (feq (show ¬ ((c1 &&& (65534 : Int32)) = (65534 : Int32)) from fun q => hc49 (congrArg Int32.toInt q))).2 (by decide) (by decide) ?_
        refine g_iconst X0 hx hby d2_56 (pc' := 57) rfl (z := (0 : Int32)) rfl ?_
        refine g_istoreN X0 hx hby d2_57 (pc' := 58) rfl (L' := #[.val (.int c1), .val (.int (0 : Int32)), .val (.int (0 : Int32))]) rfl ?_
        refine g_iloadN X0 hx hby d2_58 (pc' := 59) rfl rfl ?_
        have hc59 : (0 : Int) = (0 : Int) := by decide
        refine g_ifNo X0 hx hby d2_59 (pc' := 62) (teq (show (0 : Int32) = (0 : Int32) from Int32.toInt_inj.mp hc59)).2 rfl ?_
        refine g_iloadN X0 hx hby d2_62 (pc' := 63) rfl rfl ?_
        have hc63 : (0 : Int) = (0 : Int) := by decide
        refine g_ifNo X0 hx hby d2_63 (pc' := 66) (teq (show (0 : Int32) = (0 : Int32) from Int32.toInt_inj.mp hc63)).2 rfl ?_
        refine g_iconst X0 hx hby d2_66 (pc' := 67) rfl (z := (1 : Int32)) rfl ?_
        refine g_goto X0 hx hby d2_67 (pc' := 71) (by decide) (by decide) ?_
        refine Go.retZ X0 hx hlk hret (by simp) (hb hby d2_71) (by decide) (by decide) ?_
        exact ⟨by rw [own_text, if_pos (by omega)]; rfl, N0, e0⟩
    · refine g_icmpYes X0 hx hby d2_9 (pc' := 25) (feq (show ¬ (c1 = (9 : Int32)) from fun q => hc9 (congrArg Int32.toInt q))).2 (by decide) (by decide) ?_
      refine g_iconst X0 hx hby d2_25 (pc' := 26) rfl (z := (1 : Int32)) rfl ?_
      refine g_goto X0 hx hby d2_26 (pc' := 30) (by decide) (by decide) ?_
      refine g_istoreN X0 hx hby d2_30 (pc' := 31) rfl (L' := #[.val (.int c1), .val (.int (1 : Int32)), .unset]) rfl ?_
      refine g_iloadN X0 hx hby d2_31 (pc' := 32) rfl rfl ?_
      refine g_ldcI X0 hx hby hZ hown (wi hw 12 rfl) d2_32 (pc' := 34) rfl ?_
      have hc34 : c1.toInt < (64976 : Int) := by omega
      refine g_icmpYes X0 hx hby d2_34 (pc' := 43) (tlt (show c1 < (64976 : Int32) from Int32.lt_iff_toInt_lt.mpr hc34)).1 (by decide) (by decide) ?_
      refine g_iloadN X0 hx hby d2_43 (pc' := 44) rfl rfl ?_
      refine g_ldcI X0 hx hby hZ hown (wi hw 14 rfl) d2_44 (pc' := 46) rfl ?_
      refine g_iand X0 hx hby d2_46 (pc' := 47) rfl rfl ?_
      refine g_ldcI X0 hx hby hZ hown (wi hw 14 rfl) d2_47 (pc' := 49) rfl ?_
      by_cases hc49 : (c1 &&& (65534 : Int32)).toInt = (65534 : Int)
      · refine g_icmpNo X0 hx hby d2_49 (pc' := 52) (teq (show (c1 &&& (65534 : Int32)) = (65534 : Int32) from Int32.toInt_inj.mp hc49)).2 rfl ?_
        refine g_iconst X0 hx hby d2_52 (pc' := 53) rfl (z := (1 : Int32)) rfl ?_
        refine g_goto X0 hx hby d2_53 (pc' := 57) (by decide) (by decide) ?_
        refine g_istoreN X0 hx hby d2_57 (pc' := 58) rfl (L' := #[.val (.int c1), .val (.int (1 : Int32)), .val (.int (1 : Int32))]) rfl ?_
        refine g_iloadN X0 hx hby d2_58 (pc' := 59) rfl rfl ?_
        have hc59 : ¬ ((1 : Int) = (0 : Int)) := by decide
        refine g_ifYes X0 hx hby d2_59 (pc' := 70) (feq (show ¬ ((1 : Int32) = (0 : Int32)) from fun q => hc59 (congrArg Int32.toInt q))).2 (by decide) (by decide) ?_
        refine g_iconst X0 hx hby d2_70 (pc' := 71) rfl (z := (0 : Int32)) rfl ?_
        refine Go.retZ X0 hx hlk hret (by simp) (hb hby d2_71) (by decide) (by decide) ?_
        exact ⟨by rw [own_text, if_neg (by omega)]; rfl, N0, e0⟩
      · refine g_icmpYes X0 hx hby d2_49 (pc' := 56) (feq (show ¬ ((c1 &&& (65534 : Int32)) = (65534 : Int32)) from fun q => hc49 (congrArg Int32.toInt q))).2 (by decide) (by decide) ?_
        refine g_iconst X0 hx hby d2_56 (pc' := 57) rfl (z := (0 : Int32)) rfl ?_
        refine g_istoreN X0 hx hby d2_57 (pc' := 58) rfl (L' := #[.val (.int c1), .val (.int (1 : Int32)), .val (.int (0 : Int32))]) rfl ?_
        refine g_iloadN X0 hx hby d2_58 (pc' := 59) rfl rfl ?_
        have hc59 : ¬ ((1 : Int) = (0 : Int)) := by decide
        refine g_ifYes X0 hx hby d2_59 (pc' := 70) (feq (show ¬ ((1 : Int32) = (0 : Int32)) from fun q => hc59 (congrArg Int32.toInt q))).2 (by decide) (by decide) ?_
        refine g_iconst X0 hx hby d2_70 (pc' := 71) rfl (z := (0 : Int32)) rfl ?_
        refine Go.retZ X0 hx hlk hret (by simp) (hb hby d2_71) (by decide) (by decide) ?_
        exact ⟨by rw [own_text, if_neg (by omega)]; rfl, N0, e0⟩
  · refine g_icmpYes X0 hx hby d2_3 (pc' := 12) (flt (show ¬ (c1 < (32 : Int32)) from fun q => hc3 (Int32.lt_iff_toInt_lt.mp q))).2.1 (by decide) (by decide) ?_
    refine g_iloadN X0 hx hby d2_12 (pc' := 13) rfl rfl ?_
    refine g_bipush X0 hx hby d2_13 (pc' := 15) rfl (z := (127 : Int32)) rfl ?_
    by_cases hc15 : c1.toInt < (127 : Int)
    · refine g_icmpYes X0 hx hby d2_15 (pc' := 29) (tlt (show c1 < (127 : Int32) from Int32.lt_iff_toInt_lt.mpr hc15)).1 (by decide) (by decide) ?_
      refine g_iconst X0 hx hby d2_29 (pc' := 30) rfl (z := (0 : Int32)) rfl ?_
      refine g_istoreN X0 hx hby d2_30 (pc' := 31) rfl (L' := #[.val (.int c1), .val (.int (0 : Int32)), .unset]) rfl ?_
      refine g_iloadN X0 hx hby d2_31 (pc' := 32) rfl rfl ?_
      refine g_ldcI X0 hx hby hZ hown (wi hw 12 rfl) d2_32 (pc' := 34) rfl ?_
      have hc34 : c1.toInt < (64976 : Int) := by omega
      refine g_icmpYes X0 hx hby d2_34 (pc' := 43) (tlt (show c1 < (64976 : Int32) from Int32.lt_iff_toInt_lt.mpr hc34)).1 (by decide) (by decide) ?_
      refine g_iloadN X0 hx hby d2_43 (pc' := 44) rfl rfl ?_
      refine g_ldcI X0 hx hby hZ hown (wi hw 14 rfl) d2_44 (pc' := 46) rfl ?_
      refine g_iand X0 hx hby d2_46 (pc' := 47) rfl rfl ?_
      refine g_ldcI X0 hx hby hZ hown (wi hw 14 rfl) d2_47 (pc' := 49) rfl ?_
      by_cases hc49 : (c1 &&& (65534 : Int32)).toInt = (65534 : Int)
      · refine g_icmpNo X0 hx hby d2_49 (pc' := 52) (teq (show (c1 &&& (65534 : Int32)) = (65534 : Int32) from Int32.toInt_inj.mp hc49)).2 rfl ?_
        refine g_iconst X0 hx hby d2_52 (pc' := 53) rfl (z := (1 : Int32)) rfl ?_
        refine g_goto X0 hx hby d2_53 (pc' := 57) (by decide) (by decide) ?_
        refine g_istoreN X0 hx hby d2_57 (pc' := 58) rfl (L' := #[.val (.int c1), .val (.int (0 : Int32)), .val (.int (1 : Int32))]) rfl ?_
        refine g_iloadN X0 hx hby d2_58 (pc' := 59) rfl rfl ?_
        have hc59 : (0 : Int) = (0 : Int) := by decide
        refine g_ifNo X0 hx hby d2_59 (pc' := 62) (teq (show (0 : Int32) = (0 : Int32) from Int32.toInt_inj.mp hc59)).2 rfl ?_
        refine g_iloadN X0 hx hby d2_62 (pc' := 63) rfl rfl ?_
        have hc63 : ¬ ((1 : Int) = (0 : Int)) := by decide
        refine g_ifYes X0 hx hby d2_63 (pc' := 70) (feq (show ¬ ((1 : Int32) = (0 : Int32)) from fun q => hc63 (congrArg Int32.toInt q))).2 (by decide) (by decide) ?_
        refine g_iconst X0 hx hby d2_70 (pc' := 71) rfl (z := (0 : Int32)) rfl ?_
        refine Go.retZ X0 hx hlk hret (by simp) (hb hby d2_71) (by decide) (by decide) ?_
        exact ⟨by rw [own_text, if_neg (by omega)]; rfl, N0, e0⟩
      · refine g_icmpYes X0 hx hby d2_49 (pc' := 56) (feq (show ¬ ((c1 &&& (65534 : Int32)) = (65534 : Int32)) from fun q => hc49 (congrArg Int32.toInt q))).2 (by decide) (by decide) ?_
        refine g_iconst X0 hx hby d2_56 (pc' := 57) rfl (z := (0 : Int32)) rfl ?_
        refine g_istoreN X0 hx hby d2_57 (pc' := 58) rfl (L' := #[.val (.int c1), .val (.int (0 : Int32)), .val (.int (0 : Int32))]) rfl ?_
        refine g_iloadN X0 hx hby d2_58 (pc' := 59) rfl rfl ?_
        have hc59 : (0 : Int) = (0 : Int) := by decide
        refine g_ifNo X0 hx hby d2_59 (pc' := 62) (teq (show (0 : Int32) = (0 : Int32) from Int32.toInt_inj.mp hc59)).2 rfl ?_
        refine g_iloadN X0 hx hby d2_62 (pc' := 63) rfl rfl ?_
        have hc63 : (0 : Int) = (0 : Int) := by decide
        refine g_ifNo X0 hx hby d2_63 (pc' := 66) (teq (show (0 : Int32) = (0 : Int32) from Int32.toInt_inj.mp hc63)).2 rfl ?_
        refine g_iconst X0 hx hby d2_66 (pc' := 67) rfl (z := (1 : Int32)) rfl ?_
        refine g_goto X0 hx hby d2_67 (pc' := 71) (by decide) (by decide) ?_
        refine Go.retZ X0 hx hlk hret (by simp) (hb hby d2_71) (by decide) (by decide) ?_
        exact ⟨by rw [own_text, if_pos (by omega)]; rfl, N0, e0⟩
    · refine g_icmpNo X0 hx hby d2_15 (pc' := 18) (flt (show ¬ (c1 < (127 : Int32)) from fun q => hc15 (Int32.lt_iff_toInt_lt.mp q))).1 rfl ?_
      refine g_iloadN X0 hx hby d2_18 (pc' := 19) rfl rfl ?_
      refine g_sipush X0 hx hby d2_19 (pc' := 22) rfl (z := (159 : Int32)) rfl ?_
      by_cases hc22 : (159 : Int) < c1.toInt
      · refine g_icmpYes X0 hx hby d2_22 (pc' := 29) (tlt (show (159 : Int32) < c1 from Int32.lt_iff_toInt_lt.mpr hc22)).2.2.1 (by decide) (by decide) ?_
        refine g_iconst X0 hx hby d2_29 (pc' := 30) rfl (z := (0 : Int32)) rfl ?_
        refine g_istoreN X0 hx hby d2_30 (pc' := 31) rfl (L' := #[.val (.int c1), .val (.int (0 : Int32)), .unset]) rfl ?_
        refine g_iloadN X0 hx hby d2_31 (pc' := 32) rfl rfl ?_
        refine g_ldcI X0 hx hby hZ hown (wi hw 12 rfl) d2_32 (pc' := 34) rfl ?_
        by_cases hc34 : c1.toInt < (64976 : Int)
        · refine g_icmpYes X0 hx hby d2_34 (pc' := 43) (tlt (show c1 < (64976 : Int32) from Int32.lt_iff_toInt_lt.mpr hc34)).1 (by decide) (by decide) ?_
          refine g_iloadN X0 hx hby d2_43 (pc' := 44) rfl rfl ?_
          refine g_ldcI X0 hx hby hZ hown (wi hw 14 rfl) d2_44 (pc' := 46) rfl ?_
          refine g_iand X0 hx hby d2_46 (pc' := 47) rfl rfl ?_
          refine g_ldcI X0 hx hby hZ hown (wi hw 14 rfl) d2_47 (pc' := 49) rfl ?_
          by_cases hc49 : (c1 &&& (65534 : Int32)).toInt = (65534 : Int)
          · refine g_icmpNo X0 hx hby d2_49 (pc' := 52) (teq (show (c1 &&& (65534 : Int32)) = (65534 : Int32) from Int32.toInt_inj.mp hc49)).2 rfl ?_
            refine g_iconst X0 hx hby d2_52 (pc' := 53) rfl (z := (1 : Int32)) rfl ?_
            refine g_goto X0 hx hby d2_53 (pc' := 57) (by decide) (by decide) ?_
            refine g_istoreN X0 hx hby d2_57 (pc' := 58) rfl (L' := #[.val (.int c1), .val (.int (0 : Int32)), .val (.int (1 : Int32))]) rfl ?_
            refine g_iloadN X0 hx hby d2_58 (pc' := 59) rfl rfl ?_
            have hc59 : (0 : Int) = (0 : Int) := by decide
            refine g_ifNo X0 hx hby d2_59 (pc' := 62) (teq (show (0 : Int32) = (0 : Int32) from Int32.toInt_inj.mp hc59)).2 rfl ?_
            refine g_iloadN X0 hx hby d2_62 (pc' := 63) rfl rfl ?_
            have hc63 : ¬ ((1 : Int) = (0 : Int)) := by decide
            refine g_ifYes X0 hx hby d2_63 (pc' := 70) (feq (show ¬ ((1 : Int32) = (0 : Int32)) from fun q => hc63 (congrArg Int32.toInt q))).2 (by decide) (by decide) ?_
            refine g_iconst X0 hx hby d2_70 (pc' := 71) rfl (z := (0 : Int32)) rfl ?_
            refine Go.retZ X0 hx hlk hret (by simp) (hb hby d2_71) (by decide) (by decide) ?_
            exact ⟨by rw [own_text, if_neg (by omega)]; rfl, N0, e0⟩
          · refine g_icmpYes X0 hx hby d2_49 (pc' := 56) (feq (show ¬ ((c1 &&& (65534 : Int32)) = (65534 : Int32)) from fun q => hc49 (congrArg Int32.toInt q))).2 (by decide) (by decide) ?_
            refine g_iconst X0 hx hby d2_56 (pc' := 57) rfl (z := (0 : Int32)) rfl ?_
            refine g_istoreN X0 hx hby d2_57 (pc' := 58) rfl (L' := #[.val (.int c1), .val (.int (0 : Int32)), .val (.int (0 : Int32))]) rfl ?_
            refine g_iloadN X0 hx hby d2_58 (pc' := 59) rfl rfl ?_
            have hc59 : (0 : Int) = (0 : Int) := by decide
            refine g_ifNo X0 hx hby d2_59 (pc' := 62) (teq (show (0 : Int32) = (0 : Int32) from Int32.toInt_inj.mp hc59)).2 rfl ?_
            refine g_iloadN X0 hx hby d2_62 (pc' := 63) rfl rfl ?_
            have hc63 : (0 : Int) = (0 : Int) := by decide
            refine g_ifNo X0 hx hby d2_63 (pc' := 66) (teq (show (0 : Int32) = (0 : Int32) from Int32.toInt_inj.mp hc63)).2 rfl ?_
            refine g_iconst X0 hx hby d2_66 (pc' := 67) rfl (z := (1 : Int32)) rfl ?_
            refine g_goto X0 hx hby d2_67 (pc' := 71) (by decide) (by decide) ?_
            refine Go.retZ X0 hx hlk hret (by simp) (hb hby d2_71) (by decide) (by decide) ?_
            exact ⟨by rw [own_text, if_pos (by omega)]; rfl, N0, e0⟩
        · refine g_icmpNo X0 hx hby d2_34 (pc' := 37) (flt (show ¬ (c1 < (64976 : Int32)) from fun q => hc34 (Int32.lt_iff_toInt_lt.mp q))).1 rfl ?_
          refine g_iloadN X0 hx hby d2_37 (pc' := 38) rfl rfl ?_
          refine g_ldcI X0 hx hby hZ hown (wi hw 13 rfl) d2_38 (pc' := 40) rfl ?_
          by_cases hc40 : (65007 : Int) < c1.toInt
          · refine g_icmpNo X0 hx hby d2_40 (pc' := 43) (tlt (show (65007 : Int32) < c1 from Int32.lt_iff_toInt_lt.mpr hc40)).2.2.2 rfl ?_
            refine g_iloadN X0 hx hby d2_43 (pc' := 44) rfl rfl ?_
            refine g_ldcI X0 hx hby hZ hown (wi hw 14 rfl) d2_44 (pc' := 46) rfl ?_
            refine g_iand X0 hx hby d2_46 (pc' := 47) rfl rfl ?_
            refine g_ldcI X0 hx hby hZ hown (wi hw 14 rfl) d2_47 (pc' := 49) rfl ?_
            by_cases hc49 : (c1 &&& (65534 : Int32)).toInt = (65534 : Int)
            · refine g_icmpNo X0 hx hby d2_49 (pc' := 52) (teq (show (c1 &&& (65534 : Int32)) = (65534 : Int32) from Int32.toInt_inj.mp hc49)).2 rfl ?_
              refine g_iconst X0 hx hby d2_52 (pc' := 53) rfl (z := (1 : Int32)) rfl ?_
              refine g_goto X0 hx hby d2_53 (pc' := 57) (by decide) (by decide) ?_
              refine g_istoreN X0 hx hby d2_57 (pc' := 58) rfl (L' := #[.val (.int c1), .val (.int (0 : Int32)), .val (.int (1 : Int32))]) rfl ?_
              refine g_iloadN X0 hx hby d2_58 (pc' := 59) rfl rfl ?_
              have hc59 : (0 : Int) = (0 : Int) := by decide
              refine g_ifNo X0 hx hby d2_59 (pc' := 62) (teq (show (0 : Int32) = (0 : Int32) from Int32.toInt_inj.mp hc59)).2 rfl ?_
              refine g_iloadN X0 hx hby d2_62 (pc' := 63) rfl rfl ?_
              have hc63 : ¬ ((1 : Int) = (0 : Int)) := by decide
              refine g_ifYes X0 hx hby d2_63 (pc' := 70) (feq (show ¬ ((1 : Int32) = (0 : Int32)) from fun q => hc63 (congrArg Int32.toInt q))).2 (by decide) (by decide) ?_
              refine g_iconst X0 hx hby d2_70 (pc' := 71) rfl (z := (0 : Int32)) rfl ?_
              refine Go.retZ X0 hx hlk hret (by simp) (hb hby d2_71) (by decide) (by decide) ?_
              exact ⟨by rw [own_text, if_neg (by omega)]; rfl, N0, e0⟩
            · refine g_icmpYes X0 hx hby d2_49 (pc' := 56) (feq (show ¬ ((c1 &&& (65534 : Int32)) = (65534 : Int32)) from fun q => hc49 (congrArg Int32.toInt q))).2 (by decide) (by decide) ?_
              refine g_iconst X0 hx hby d2_56 (pc' := 57) rfl (z := (0 : Int32)) rfl ?_
              refine g_istoreN X0 hx hby d2_57 (pc' := 58) rfl (L' := #[.val (.int c1), .val (.int (0 : Int32)), .val (.int (0 : Int32))]) rfl ?_
              refine g_iloadN X0 hx hby d2_58 (pc' := 59) rfl rfl ?_
              have hc59 : (0 : Int) = (0 : Int) := by decide
              refine g_ifNo X0 hx hby d2_59 (pc' := 62) (teq (show (0 : Int32) = (0 : Int32) from Int32.toInt_inj.mp hc59)).2 rfl ?_
              refine g_iloadN X0 hx hby d2_62 (pc' := 63) rfl rfl ?_
              have hc63 : (0 : Int) = (0 : Int) := by decide
              refine g_ifNo X0 hx hby d2_63 (pc' := 66) (teq (show (0 : Int32) = (0 : Int32) from Int32.toInt_inj.mp hc63)).2 rfl ?_
              refine g_iconst X0 hx hby d2_66 (pc' := 67) rfl (z := (1 : Int32)) rfl ?_
              refine g_goto X0 hx hby d2_67 (pc' := 71) (by decide) (by decide) ?_
              refine Go.retZ X0 hx hlk hret (by simp) (hb hby d2_71) (by decide) (by decide) ?_
              exact ⟨by rw [own_text, if_pos (by omega)]; rfl, N0, e0⟩
          · refine g_icmpYes X0 hx hby d2_40 (pc' := 52) (flt (show ¬ ((65007 : Int32) < c1) from fun q => hc40 (Int32.lt_iff_toInt_lt.mp q))).2.2.2 (by decide) (by decide) ?_
            refine g_iconst X0 hx hby d2_52 (pc' := 53) rfl (z := (1 : Int32)) rfl ?_
            refine g_goto X0 hx hby d2_53 (pc' := 57) (by decide) (by decide) ?_
            refine g_istoreN X0 hx hby d2_57 (pc' := 58) rfl (L' := #[.val (.int c1), .val (.int (0 : Int32)), .val (.int (1 : Int32))]) rfl ?_
            refine g_iloadN X0 hx hby d2_58 (pc' := 59) rfl rfl ?_
            have hc59 : (0 : Int) = (0 : Int) := by decide
            refine g_ifNo X0 hx hby d2_59 (pc' := 62) (teq (show (0 : Int32) = (0 : Int32) from Int32.toInt_inj.mp hc59)).2 rfl ?_
            refine g_iloadN X0 hx hby d2_62 (pc' := 63) rfl rfl ?_
            have hc63 : ¬ ((1 : Int) = (0 : Int)) := by decide
            refine g_ifYes X0 hx hby d2_63 (pc' := 70) (feq (show ¬ ((1 : Int32) = (0 : Int32)) from fun q => hc63 (congrArg Int32.toInt q))).2 (by decide) (by decide) ?_
            refine g_iconst X0 hx hby d2_70 (pc' := 71) rfl (z := (0 : Int32)) rfl ?_
            refine Go.retZ X0 hx hlk hret (by simp) (hb hby d2_71) (by decide) (by decide) ?_
            exact ⟨by rw [own_text, if_neg (by omega)]; rfl, N0, e0⟩
      · refine g_icmpNo X0 hx hby d2_22 (pc' := 25) (flt (show ¬ ((159 : Int32) < c1) from fun q => hc22 (Int32.lt_iff_toInt_lt.mp q))).2.2.1 rfl ?_
        refine g_iconst X0 hx hby d2_25 (pc' := 26) rfl (z := (1 : Int32)) rfl ?_
        refine g_goto X0 hx hby d2_26 (pc' := 30) (by decide) (by decide) ?_
        refine g_istoreN X0 hx hby d2_30 (pc' := 31) rfl (L' := #[.val (.int c1), .val (.int (1 : Int32)), .unset]) rfl ?_
        refine g_iloadN X0 hx hby d2_31 (pc' := 32) rfl rfl ?_
        refine g_ldcI X0 hx hby hZ hown (wi hw 12 rfl) d2_32 (pc' := 34) rfl ?_
        have hc34 : c1.toInt < (64976 : Int) := by omega
        refine g_icmpYes X0 hx hby d2_34 (pc' := 43) (tlt (show c1 < (64976 : Int32) from Int32.lt_iff_toInt_lt.mpr hc34)).1 (by decide) (by decide) ?_
        refine g_iloadN X0 hx hby d2_43 (pc' := 44) rfl rfl ?_
        refine g_ldcI X0 hx hby hZ hown (wi hw 14 rfl) d2_44 (pc' := 46) rfl ?_
        refine g_iand X0 hx hby d2_46 (pc' := 47) rfl rfl ?_
        refine g_ldcI X0 hx hby hZ hown (wi hw 14 rfl) d2_47 (pc' := 49) rfl ?_
        by_cases hc49 : (c1 &&& (65534 : Int32)).toInt = (65534 : Int)
        · refine g_icmpNo X0 hx hby d2_49 (pc' := 52) (teq (show (c1 &&& (65534 : Int32)) = (65534 : Int32) from Int32.toInt_inj.mp hc49)).2 rfl ?_
          refine g_iconst X0 hx hby d2_52 (pc' := 53) rfl (z := (1 : Int32)) rfl ?_
          refine g_goto X0 hx hby d2_53 (pc' := 57) (by decide) (by decide) ?_
          refine g_istoreN X0 hx hby d2_57 (pc' := 58) rfl (L' := #[.val (.int c1), .val (.int (1 : Int32)), .val (.int (1 : Int32))]) rfl ?_
          refine g_iloadN X0 hx hby d2_58 (pc' := 59) rfl rfl ?_
          have hc59 : ¬ ((1 : Int) = (0 : Int)) := by decide
          refine g_ifYes X0 hx hby d2_59 (pc' := 70) (feq (show ¬ ((1 : Int32) = (0 : Int32)) from fun q => hc59 (congrArg Int32.toInt q))).2 (by decide) (by decide) ?_
          refine g_iconst X0 hx hby d2_70 (pc' := 71) rfl (z := (0 : Int32)) rfl ?_
          refine Go.retZ X0 hx hlk hret (by simp) (hb hby d2_71) (by decide) (by decide) ?_
          exact ⟨by rw [own_text, if_neg (by omega)]; rfl, N0, e0⟩
        · refine g_icmpYes X0 hx hby d2_49 (pc' := 56) (feq (show ¬ ((c1 &&& (65534 : Int32)) = (65534 : Int32)) from fun q => hc49 (congrArg Int32.toInt q))).2 (by decide) (by decide) ?_
          refine g_iconst X0 hx hby d2_56 (pc' := 57) rfl (z := (0 : Int32)) rfl ?_
          refine g_istoreN X0 hx hby d2_57 (pc' := 58) rfl (L' := #[.val (.int c1), .val (.int (1 : Int32)), .val (.int (0 : Int32))]) rfl ?_
          refine g_iloadN X0 hx hby d2_58 (pc' := 59) rfl rfl ?_
          have hc59 : ¬ ((1 : Int) = (0 : Int)) := by decide
          refine g_ifYes X0 hx hby d2_59 (pc' := 70) (feq (show ¬ ((1 : Int32) = (0 : Int32)) from fun q => hc59 (congrArg Int32.toInt q))).2 (by decide) (by decide) ?_
          refine g_iconst X0 hx hby d2_70 (pc' := 71) rfl (z := (0 : Int32)) rfl ?_
          refine Go.retZ X0 hx hlk hret (by simp) (hb hby d2_71) (by decide) (by decide) ?_
          exact ⟨by rw [own_text, if_neg (by omega)]; rfl, N0, e0⟩
theorem d3_0 : decode method_3_code 0 = .ok (.iload_n 0, 1) := by decide +kernel
theorem d3_1 : decode method_3_code 1 = .ok (.ldc 8, 2) := by decide +kernel
theorem d3_3 : decode method_3_code 3 = .ok (.irem, 1) := by decide +kernel
theorem d3_4 : decode method_3_code 4 = .ok (.istore_n 1, 1) := by decide +kernel
theorem d3_5 : decode method_3_code 5 = .ok (.iload_n 0, 1) := by decide +kernel
theorem d3_6 : decode method_3_code 6 = .ok (.bipush 9, 2) := by decide +kernel
theorem d3_8 : decode method_3_code 8 = .ok (.if_icmp .ne 5, 3) := by decide +kernel
theorem d3_11 : decode method_3_code 11 = .ok (.iconst 1, 1) := by decide +kernel
theorem d3_12 : decode method_3_code 12 = .ok (.ireturn, 1) := by decide +kernel
theorem d3_13 : decode method_3_code 13 = .ok (.iload_n 0, 1) := by decide +kernel
theorem d3_14 : decode method_3_code 14 = .ok (.bipush 31, 2) := by decide +kernel
theorem d3_16 : decode method_3_code 16 = .ok (.if_icmp .gt 5, 3) := by decide +kernel
theorem d3_21 : decode method_3_code 21 = .ok (.iload_n 0, 1) := by decide +kernel
theorem d3_22 : decode method_3_code 22 = .ok (.bipush 127, 2) := by decide +kernel
theorem d3_24 : decode method_3_code 24 = .ok (.if_icmp .lt 12, 3) := by decide +kernel
theorem d3_36 : decode method_3_code 36 = .ok (.iload_n 0, 1) := by decide +kernel
theorem d3_37 : decode method_3_code 37 = .ok (.ldc 30, 2) := by decide +kernel
theorem d3_39 : decode method_3_code 39 = .ok (.if_icmp .lt 11, 3) := by decide +kernel
theorem d3_50 : decode method_3_code 50 = .ok (.iload_n 1, 1) := by decide +kernel
theorem d3_51 : decode method_3_code 51 = .ok (.ldc 32, 2) := by decide +kernel
theorem d3_53 : decode method_3_code 53 = .ok (.if_icmp .eq 9, 3) := by decide +kernel
theorem d3_62 : decode method_3_code 62 = .ok (.iconst 0, 1) := by decide +kernel
theorem d3_63 : decode method_3_code 63 = .ok (.ireturn, 1) := by decide +kernel
theorem d3_56 : decode method_3_code 56 = .ok (.iload_n 1, 1) := by decide +kernel
theorem d3_57 : decode method_3_code 57 = .ok (.ldc 33, 2) := by decide +kernel
theorem d3_59 : decode method_3_code 59 = .ok (.if_icmp .ne 5, 3) := by decide +kernel
theorem d3_64 : decode method_3_code 64 = .ok (.iconst 1, 1) := by decide +kernel
theorem d3_65 : decode method_3_code 65 = .ok (.ireturn, 1) := by decide +kernel
theorem d3_27 : decode method_3_code 27 = .ok (.iload_n 0, 1) := by decide +kernel
theorem d3_28 : decode method_3_code 28 = .ok (.sipush 159, 3) := by decide +kernel
theorem d3_31 : decode method_3_code 31 = .ok (.if_icmp .gt 5, 3) := by decide +kernel
theorem d3_42 : decode method_3_code 42 = .ok (.iload_n 0, 1) := by decide +kernel
theorem d3_43 : decode method_3_code 43 = .ok (.ldc 31, 2) := by decide +kernel
theorem d3_45 : decode method_3_code 45 = .ok (.if_icmp .gt 5, 3) := by decide +kernel
theorem d3_48 : decode method_3_code 48 = .ok (.iconst 0, 1) := by decide +kernel
theorem d3_49 : decode method_3_code 49 = .ok (.ireturn, 1) := by decide +kernel
theorem d3_34 : decode method_3_code 34 = .ok (.iconst 0, 1) := by decide +kernel
theorem d3_35 : decode method_3_code 35 = .ok (.ireturn, 1) := by decide +kernel
theorem d3_19 : decode method_3_code 19 = .ok (.iconst 0, 1) := by decide +kernel
theorem d3_20 : decode method_3_code 20 = .ok (.ireturn, 1) := by decide +kernel
theorem ef_rm3 (m : MethodId) (x0 : Int32) : entryFrame m #[(.int x0)] 2 = mkF m 0 #[.val (.int x0), .unset] [] := by first | (simp [entryFrame, mkF, argsToLocals, Value.category]; done) | rfl
theorem pn_trimwire_catalog_NamesIsTextCharacterPinLaw : plainName "trimwire/catalog/NamesIsTextCharacterPinLaw" = true := by first | (simp [plainName, overriddenIn]; done) | decide +kernel
set_option maxRecDepth 65536 in
set_option maxHeartbeats 40000000 in
theorem rm3 (l : Launch) (Z : State) (a0 : Array Value) (hw : ∀ d ∈ tables_1, d.before a0 Z = true) (c1 : Int32) (h0 : Heap) (n0 : Nat) (Z0 : n0 ≤ h0.size)  :
    Con l Z (⟨"trimwire/catalog/NamesIsTextCharacterPinLaw", "expected", "(I)Z"⟩ : MethodName) method_3_code 2 (some .boolean) ({ frames := 0, cells := 0, slots := 0, locals := 0 } : Room) #[(.int c1)] h0 (fun v h L => v = some (.int (own_exp c1)) ∧ Fr n0 L ∧ h = h0) := by
  refine meet (y := (⟨"trimwire/catalog/NamesIsTextCharacterPinLaw", "expected", "(I)Z"⟩ : MethodName)) (Q := fun v h L => v = some (.int (own_exp c1)) ∧ Fr n0 L ∧ h = h0) (plainFor_of_name pn_trimwire_catalog_NamesIsTextCharacterPinLaw) (fun m => ef_rm3 m c1) ?_
  intro p e s m below meth c T0 hx hby hml hZ hown hnm hret hlk X0 e0
  have N0 := Fr.nil n0
  refine g_iloadN X0 hx hby d3_0 (pc' := 1) rfl rfl ?_
  refine g_ldcI X0 hx hby hZ hown (wi hw 1 rfl) d3_1 (pc' := 3) rfl ?_
  refine g_irem X0 hx hby d3_3 (pc' := 4) rfl (by decide) rfl ?_
  show Go p.tables e below s _ _ _ (T0.setTop (mkF m 4 #[.val (.int c1), .unset] [(.int (c1 % (65536 : Int32)))]))
  generalize hv1 : (c1 % (65536 : Int32)) = v1
  refine g_istoreN X0 hx hby d3_4 (pc' := 5) rfl (L' := #[.val (.int c1), .val (.int v1)]) rfl ?_
  refine g_iloadN X0 hx hby d3_5 (pc' := 6) rfl rfl ?_
  refine g_bipush X0 hx hby d3_6 (pc' := 8) rfl (z := (9 : Int32)) rfl ?_
  by_cases hc8 : c1.toInt = (9 : Int)
  · refine g_icmpNo X0 hx hby d3_8 (pc' := 11) (teq (show c1 = (9 : Int32) from Int32.toInt_inj.mp hc8)).2 rfl ?_
    refine g_iconst X0 hx hby d3_11 (pc' := 12) rfl (z := (1 : Int32)) rfl ?_
    refine Go.retZ X0 hx hlk hret (by simp) (hb hby d3_12) (by decide) (by decide) ?_
    subst hv1
    exact ⟨by rw [own_exp, if_pos (by omega)]; rfl, N0, e0⟩
  · refine g_icmpYes X0 hx hby d3_8 (pc' := 13) (feq (show ¬ (c1 = (9 : Int32)) from fun q => hc8 (congrArg Int32.toInt q))).2 (by decide) (by decide) ?_
    refine g_iloadN X0 hx hby d3_13 (pc' := 14) rfl rfl ?_
    refine g_bipush X0 hx hby d3_14 (pc' := 16) rfl (z := (31 : Int32)) rfl ?_
    by_cases hc16 : (31 : Int) < c1.toInt
    · refine g_icmpYes X0 hx hby d3_16 (pc' := 21) (tlt (show (31 : Int32) < c1 from Int32.lt_iff_toInt_lt.mpr hc16)).2.2.1 (by decide) (by decide) ?_
      refine g_iloadN X0 hx hby d3_21 (pc' := 22) rfl rfl ?_
      refine g_bipush X0 hx hby d3_22 (pc' := 24) rfl (z := (127 : Int32)) rfl ?_
      by_cases hc24 : c1.toInt < (127 : Int)
      · refine g_icmpYes X0 hx hby d3_24 (pc' := 36) (tlt (show c1 < (127 : Int32) from Int32.lt_iff_toInt_lt.mpr hc24)).1 (by decide) (by decide) ?_
        refine g_iloadN X0 hx hby d3_36 (pc' := 37) rfl rfl ?_
        refine g_ldcI X0 hx hby hZ hown (wi hw 19 rfl) d3_37 (pc' := 39) rfl ?_
        have hc39 : c1.toInt < (64976 : Int) := by omega
        refine g_icmpYes X0 hx hby d3_39 (pc' := 50) (tlt (show c1 < (64976 : Int32) from Int32.lt_iff_toInt_lt.mpr hc39)).1 (by decide) (by decide) ?_
        refine g_iloadN X0 hx hby d3_50 (pc' := 51) rfl rfl ?_
        refine g_ldcI X0 hx hby hZ hown (wi hw 21 rfl) d3_51 (pc' := 53) rfl ?_
        by_cases hc53 : v1.toInt = (65534 : Int)
        · refine g_icmpYes X0 hx hby d3_53 (pc' := 62) (teq (show v1 = (65534 : Int32) from Int32.toInt_inj.mp hc53)).1 (by decide) (by decide) ?_
          refine g_iconst X0 hx hby d3_62 (pc' := 63) rfl (z := (0 : Int32)) rfl ?_
          refine Go.retZ X0 hx hlk hret (by simp) (hb hby d3_63) (by decide) (by decide) ?_
          subst hv1
          exact ⟨by rw [own_exp, if_neg (by omega)]; rfl, N0, e0⟩
        · refine g_icmpNo X0 hx hby d3_53 (pc' := 56) (feq (show ¬ (v1 = (65534 : Int32)) from fun q => hc53 (congrArg Int32.toInt q))).1 rfl ?_
          refine g_iloadN X0 hx hby d3_56 (pc' := 57) rfl rfl ?_
          refine g_ldcI X0 hx hby hZ hown (wi hw 22 rfl) d3_57 (pc' := 59) rfl ?_
          by_cases hc59 : v1.toInt = (65535 : Int)
          · refine g_icmpNo X0 hx hby d3_59 (pc' := 62) (teq (show v1 = (65535 : Int32) from Int32.toInt_inj.mp hc59)).2 rfl ?_
            refine g_iconst X0 hx hby d3_62 (pc' := 63) rfl (z := (0 : Int32)) rfl ?_
            refine Go.retZ X0 hx hlk hret (by simp) (hb hby d3_63) (by decide) (by decide) ?_
            subst hv1
            exact ⟨by rw [own_exp, if_neg (by omega)]; rfl, N0, e0⟩
          · refine g_icmpYes X0 hx hby d3_59 (pc' := 64) (feq (show ¬ (v1 = (65535 : Int32)) from fun q => hc59 (congrArg Int32.toInt q))).2 (by decide) (by decide) ?_
            refine g_iconst X0 hx hby d3_64 (pc' := 65) rfl (z := (1 : Int32)) rfl ?_
            refine Go.retZ X0 hx hlk hret (by simp) (hb hby d3_65) (by decide) (by decide) ?_
            subst hv1
            exact ⟨by rw [own_exp, if_pos (by omega)]; rfl, N0, e0⟩
      · refine g_icmpNo X0 hx hby d3_24 (pc' := 27) (flt (show ¬ (c1 < (127 : Int32)) from fun q => hc24 (Int32.lt_iff_toInt_lt.mp q))).1 rfl ?_
        refine g_iloadN X0 hx hby d3_27 (pc' := 28) rfl rfl ?_
        refine g_sipush X0 hx hby d3_28 (pc' := 31) rfl (z := (159 : Int32)) rfl ?_
        by_cases hc31 : (159 : Int) < c1.toInt
        · refine g_icmpYes X0 hx hby d3_31 (pc' := 36) (tlt (show (159 : Int32) < c1 from Int32.lt_iff_toInt_lt.mpr hc31)).2.2.1 (by decide) (by decide) ?_
          refine g_iloadN X0 hx hby d3_36 (pc' := 37) rfl rfl ?_
          refine g_ldcI X0 hx hby hZ hown (wi hw 19 rfl) d3_37 (pc' := 39) rfl ?_
          by_cases hc39 : c1.toInt < (64976 : Int)
          · refine g_icmpYes X0 hx hby d3_39 (pc' := 50) (tlt (show c1 < (64976 : Int32) from Int32.lt_iff_toInt_lt.mpr hc39)).1 (by decide) (by decide) ?_
            refine g_iloadN X0 hx hby d3_50 (pc' := 51) rfl rfl ?_
            refine g_ldcI X0 hx hby hZ hown (wi hw 21 rfl) d3_51 (pc' := 53) rfl ?_
            by_cases hc53 : v1.toInt = (65534 : Int)
            · refine g_icmpYes X0 hx hby d3_53 (pc' := 62) (teq (show v1 = (65534 : Int32) from Int32.toInt_inj.mp hc53)).1 (by decide) (by decide) ?_
              refine g_iconst X0 hx hby d3_62 (pc' := 63) rfl (z := (0 : Int32)) rfl ?_
              refine Go.retZ X0 hx hlk hret (by simp) (hb hby d3_63) (by decide) (by decide) ?_
              subst hv1
              exact ⟨by rw [own_exp, if_neg (by omega)]; rfl, N0, e0⟩
            · refine g_icmpNo X0 hx hby d3_53 (pc' := 56) (feq (show ¬ (v1 = (65534 : Int32)) from fun q => hc53 (congrArg Int32.toInt q))).1 rfl ?_
              refine g_iloadN X0 hx hby d3_56 (pc' := 57) rfl rfl ?_
              refine g_ldcI X0 hx hby hZ hown (wi hw 22 rfl) d3_57 (pc' := 59) rfl ?_
              by_cases hc59 : v1.toInt = (65535 : Int)
              · refine g_icmpNo X0 hx hby d3_59 (pc' := 62) (teq (show v1 = (65535 : Int32) from Int32.toInt_inj.mp hc59)).2 rfl ?_
                refine g_iconst X0 hx hby d3_62 (pc' := 63) rfl (z := (0 : Int32)) rfl ?_
                refine Go.retZ X0 hx hlk hret (by simp) (hb hby d3_63) (by decide) (by decide) ?_
                subst hv1
                exact ⟨by rw [own_exp, if_neg (by omega)]; rfl, N0, e0⟩
              · refine g_icmpYes X0 hx hby d3_59 (pc' := 64) (feq (show ¬ (v1 = (65535 : Int32)) from fun q => hc59 (congrArg Int32.toInt q))).2 (by decide) (by decide) ?_
                refine g_iconst X0 hx hby d3_64 (pc' := 65) rfl (z := (1 : Int32)) rfl ?_
                refine Go.retZ X0 hx hlk hret (by simp) (hb hby d3_65) (by decide) (by decide) ?_
                subst hv1
                exact ⟨by rw [own_exp, if_pos (by omega)]; rfl, N0, e0⟩
          · refine g_icmpNo X0 hx hby d3_39 (pc' := 42) (flt (show ¬ (c1 < (64976 : Int32)) from fun q => hc39 (Int32.lt_iff_toInt_lt.mp q))).1 rfl ?_
            refine g_iloadN X0 hx hby d3_42 (pc' := 43) rfl rfl ?_
            refine g_ldcI X0 hx hby hZ hown (wi hw 20 rfl) d3_43 (pc' := 45) rfl ?_
            by_cases hc45 : (65007 : Int) < c1.toInt
            · refine g_icmpYes X0 hx hby d3_45 (pc' := 50) (tlt (show (65007 : Int32) < c1 from Int32.lt_iff_toInt_lt.mpr hc45)).2.2.1 (by decide) (by decide) ?_
              refine g_iloadN X0 hx hby d3_50 (pc' := 51) rfl rfl ?_
              refine g_ldcI X0 hx hby hZ hown (wi hw 21 rfl) d3_51 (pc' := 53) rfl ?_
              by_cases hc53 : v1.toInt = (65534 : Int)
              · refine g_icmpYes X0 hx hby d3_53 (pc' := 62) (teq (show v1 = (65534 : Int32) from Int32.toInt_inj.mp hc53)).1 (by decide) (by decide) ?_
                refine g_iconst X0 hx hby d3_62 (pc' := 63) rfl (z := (0 : Int32)) rfl ?_
                refine Go.retZ X0 hx hlk hret (by simp) (hb hby d3_63) (by decide) (by decide) ?_
                subst hv1
                exact ⟨by rw [own_exp, if_neg (by omega)]; rfl, N0, e0⟩
              · refine g_icmpNo X0 hx hby d3_53 (pc' := 56) (feq (show ¬ (v1 = (65534 : Int32)) from fun q => hc53 (congrArg Int32.toInt q))).1 rfl ?_
                refine g_iloadN X0 hx hby d3_56 (pc' := 57) rfl rfl ?_
                refine g_ldcI X0 hx hby hZ hown (wi hw 22 rfl) d3_57 (pc' := 59) rfl ?_
                by_cases hc59 : v1.toInt = (65535 : Int)
                · refine g_icmpNo X0 hx hby d3_59 (pc' := 62) (teq (show v1 = (65535 : Int32) from Int32.toInt_inj.mp hc59)).2 rfl ?_
                  refine g_iconst X0 hx hby d3_62 (pc' := 63) rfl (z := (0 : Int32)) rfl ?_
                  refine Go.retZ X0 hx hlk hret (by simp) (hb hby d3_63) (by decide) (by decide) ?_
                  subst hv1
                  exact ⟨by rw [own_exp, if_neg (by omega)]; rfl, N0, e0⟩
                · refine g_icmpYes X0 hx hby d3_59 (pc' := 64) (feq (show ¬ (v1 = (65535 : Int32)) from fun q => hc59 (congrArg Int32.toInt q))).2 (by decide) (by decide) ?_
                  refine g_iconst X0 hx hby d3_64 (pc' := 65) rfl (z := (1 : Int32)) rfl ?_
                  refine Go.retZ X0 hx hlk hret (by simp) (hb hby d3_65) (by decide) (by decide) ?_
                  subst hv1
                  exact ⟨by rw [own_exp, if_pos (by omega)]; rfl, N0, e0⟩
            · refine g_icmpNo X0 hx hby d3_45 (pc' := 48) (flt (show ¬ ((65007 : Int32) < c1) from fun q => hc45 (Int32.lt_iff_toInt_lt.mp q))).2.2.1 rfl ?_
              refine g_iconst X0 hx hby d3_48 (pc' := 49) rfl (z := (0 : Int32)) rfl ?_
              refine Go.retZ X0 hx hlk hret (by simp) (hb hby d3_49) (by decide) (by decide) ?_
              subst hv1
              exact ⟨by rw [own_exp, if_neg (by omega)]; rfl, N0, e0⟩
        · refine g_icmpNo X0 hx hby d3_31 (pc' := 34) (flt (show ¬ ((159 : Int32) < c1) from fun q => hc31 (Int32.lt_iff_toInt_lt.mp q))).2.2.1 rfl ?_
          refine g_iconst X0 hx hby d3_34 (pc' := 35) rfl (z := (0 : Int32)) rfl ?_
          refine Go.retZ X0 hx hlk hret (by simp) (hb hby d3_35) (by decide) (by decide) ?_
          subst hv1
          exact ⟨by rw [own_exp, if_neg (by omega)]; rfl, N0, e0⟩
    · refine g_icmpNo X0 hx hby d3_16 (pc' := 19) (flt (show ¬ ((31 : Int32) < c1) from fun q => hc16 (Int32.lt_iff_toInt_lt.mp q))).2.2.1 rfl ?_
      refine g_iconst X0 hx hby d3_19 (pc' := 20) rfl (z := (0 : Int32)) rfl ?_
      refine Go.retZ X0 hx hlk hret (by simp) (hb hby d3_20) (by decide) (by decide) ?_
      subst hv1
      exact ⟨by rw [own_exp, if_neg (by omega)]; rfl, N0, e0⟩
theorem pd_aIIzI : parseMethodDescriptor "(II)I" = some ⟨[.int, .int], some .int⟩ := by decide +kernel
theorem pd_aIzZ : parseMethodDescriptor "(I)Z" = some ⟨[.int], some .boolean⟩ := by decide +kernel
theorem ef_rm0 (m : MethodId) (x0 : Int32) (x1 : Int32) (x2 : Int32) : entryFrame m #[(.int x0), (.int x1), (.int x2)] maxLocals = mkF m 0 #[.val (.int x0), .val (.int x1), .val (.int x2), .unset, .unset, .unset, .unset, .unset] [] := by first | (simp [entryFrame, mkF, argsToLocals, Value.category, maxLocals]; done) | rfl
set_option maxRecDepth 65536 in
set_option maxHeartbeats 40000000 in
theorem rm0 (l : Launch) (Z : State) (a0 : Array Value) (hw : ∀ d ∈ tables_1, d.before a0 Z = true) (ws : List Jvm.Cond) (p1 p2 p3 : Int32) (h0 : Heap) (n0 : Nat) (Z0 : n0 ≤ h0.size)  :
    MetFree l x (head1 (Jvm.Cond.code x code maxLocals ret :: ws) room_1) (fun a U => a = #[(.int p1), (.int p2), (.int p3)] ∧ Z.Warmed39 U.vm ∧ U.heap = h0) (fun _ _ _ _ _ => True) (fun _ U o U' => ∃ v L, o = .returned v ∧ (fun v h L => v = some (.int 1) ∧ Fr n0 L) v U'.heap L ∧ FrameEnd U o U' L room_1.cells room_1.slots) := by
  refine meet (y := x) (Q := fun v h L => v = some (.int 1) ∧ Fr n0 L) (plainFor_of_name pn_trimwire_catalog_NamesIsTextCharacterPinLaw) (fun m => ef_rm0 m p1 p2 p3) ?_
  intro p e s m below meth c T0 hx hby hml hZ hown hnm hret hlk X0 e0
  have N0 := Fr.nil n0
  have hml : c.maxLocals = 8 := hml
  refine g_iloadN X0 hx hby at_0 (pc' := 1) rfl rfl ?_
  refine g_ldcI X0 hx hby hZ hown (wi hw 0 rfl) at_1 (pc' := 3) rfl ?_
  refine g_iand X0 hx hby at_3 (pc' := 4) rfl rfl ?_
  refine g_bipush X0 hx hby at_4 (pc' := 6) rfl (z := (17 : Int32)) rfl ?_
  refine g_irem X0 hx hby at_6 (pc' := 7) rfl (by decide) rfl ?_
  show Go p.tables e below s _ _ _ (T0.setTop (mkF m 7 #[.val (.int p1), .val (.int p2), .val (.int p3), .unset, .unset, .unset, .unset, .unset] [(.int ((p3 &&& (2147483647 : Int32)) % (17 : Int32)))]))
  generalize hv1 : ((p3 &&& (2147483647 : Int32)) % (17 : Int32)) = v1
  refine g_istoreN X0 hx hby at_7 (pc' := 8) rfl (L' := #[.val (.int p1), .val (.int p2), .val (.int p3), .val (.int v1), .unset, .unset, .unset, .unset]) rfl ?_
  refine g_iloadN X0 hx hby at_8 (pc' := 9) rfl rfl ?_
  refine g_bipush X0 hx hby at_9 (pc' := 11) rfl (z := (7 : Int32)) rfl ?_
  refine g_iand X0 hx hby at_11 (pc' := 12) rfl rfl ?_
  show Go p.tables e below s _ _ _ (T0.setTop (mkF m 12 #[.val (.int p1), .val (.int p2), .val (.int p3), .val (.int v1), .unset, .unset, .unset, .unset] [(.int (p2 &&& (7 : Int32)))]))
  generalize hv2 : (p2 &&& (7 : Int32)) = v2
  refine g_istore X0 hx hby at_12 (pc' := 14) rfl (L' := #[.val (.int p1), .val (.int p2), .val (.int p3), .val (.int v1), .val (.int v2), .unset, .unset, .unset]) rfl ?_
  refine g_iloadN X0 hx hby at_14 (pc' := 15) rfl rfl ?_
  refine g_bipush X0 hx hby at_15 (pc' := 17) rfl (z := (63 : Int32)) rfl ?_
  refine g_iand X0 hx hby at_17 (pc' := 18) rfl rfl ?_
  refine g_bipush X0 hx hby at_18 (pc' := 20) rfl (z := (32 : Int32)) rfl ?_
  refine g_isub X0 hx hby at_20 (pc' := 21) rfl rfl ?_
  show Go p.tables e below s _ _ _ (T0.setTop (mkF m 21 #[.val (.int p1), .val (.int p2), .val (.int p3), .val (.int v1), .val (.int v2), .unset, .unset, .unset] [(.int ((p1 &&& (63 : Int32)) - (32 : Int32)))]))
  generalize hv3 : ((p1 &&& (63 : Int32)) - (32 : Int32)) = v3
  refine g_istore X0 hx hby at_21 (pc' := 23) rfl (L' := #[.val (.int p1), .val (.int p2), .val (.int p3), .val (.int v1), .val (.int v2), .val (.int v3), .unset, .unset]) rfl ?_
  have hpl : 0 ≤ v1.toInt ∧ v1.toInt ≤ 16 := by rw [← hv1]; have : (0 ≤ (p3 &&& (2147483647 : Int32)).toInt → ((p3 &&& (2147483647 : Int32)) % (17 : Int32)).toInt = (p3 &&& (2147483647 : Int32)).toInt % 17) ∧ ((p3 &&& (2147483647 : Int32)).toInt < 0 → ((p3 &&& (2147483647 : Int32)) % (17 : Int32)).toInt = -((-(p3 &&& (2147483647 : Int32)).toInt) % 17)) := c_irem _ _ 17 rfl; have : -2147483648 ≤ ((p3 &&& (2147483647 : Int32)) % (17 : Int32)).toInt ∧ ((p3 &&& (2147483647 : Int32)) % (17 : Int32)).toInt < 2147483648 := rng32 _; have : (p3 &&& (2147483647 : Int32)).toInt = p3.toInt % 2147483648 := c_mask _ _ 31 (by decide) (by decide); have : -2147483648 ≤ (p3 &&& (2147483647 : Int32)).toInt ∧ (p3 &&& (2147483647 : Int32)).toInt < 2147483648 := rng32 _; have : -2147483648 ≤ p3.toInt ∧ p3.toInt < 2147483648 := rng32 _; omega
  have hof : -32 ≤ v3.toInt ∧ v3.toInt ≤ 31 := by rw [← hv3]; have : (((p1 &&& (63 : Int32)) - (32 : Int32)).toInt - ((p1 &&& (63 : Int32)).toInt - (32))) % 4294967296 = 0 := c_isub _ _; have : -2147483648 ≤ ((p1 &&& (63 : Int32)) - (32 : Int32)).toInt ∧ ((p1 &&& (63 : Int32)) - (32 : Int32)).toInt < 2147483648 := rng32 _; have : (p1 &&& (63 : Int32)).toInt = p1.toInt % 64 := c_mask _ _ 6 (by decide) (by decide); have : -2147483648 ≤ (p1 &&& (63 : Int32)).toInt ∧ (p1 &&& (63 : Int32)).toInt < 2147483648 := rng32 _; have : -2147483648 ≤ p1.toInt ∧ p1.toInt < 2147483648 := rng32 _; omega
  refine Go.join (α := Int32 × Int32) (P := fun x => (fun (fl : Int32) (cp : Int32) => 0 ≤ cp.toInt) x.1 x.2) (F := fun x => (fun (fl : Int32) (cp : Int32) => T0.setTop (mkF m 158 #[.val (.int p1), .val (.int p2), .val (.int p3), .val (.int v1), .val (.int v2), .val (.int v3), .val (.int fl), .val (.int cp)] [])) x.1 x.2) ?_ ?_
  · rintro ⟨fl, cp⟩ hJ158
    show Go p.tables e below s _ _ _ (T0.setTop (mkF m 158 #[.val (.int p1), .val (.int p2), .val (.int p3), .val (.int v1), .val (.int v2), .val (.int v3), .val (.int fl), .val (.int cp)] []))
    replace hJ158 : 0 ≤ cp.toInt := hJ158
    refine g_iload X0 hx hby at_158 (pc' := 160) rfl rfl ?_
    refine g_ldcI X0 hx hby hZ hown (wi hw 3 rfl) at_160 (pc' := 162) rfl ?_
    refine Go.callS X0 hx hZ (y := (⟨"java/lang/Math", "min", "(II)I"⟩ : MethodName)) hown (wi hw 4 rfl) (wi hw 5 rfl) (wi hw 6 rfl) (wi hw 7 rfl) (by decide) e0 (argsL := [(.int cp), (.int (1114111 : Int32))]) (rest := []) (W := 0) (rm1 l Z a0 hw cp (1114111 : Int32) h0 n0 Z0) (hb hby at_162) (by rw [hml]; rfl) rfl pd_aIIzI rfl rfl (by decide) (by decide) (by decide) (by decide) ?_
    intro v4 T4 L4 X4 hQ4
    obtain ⟨rfl, Nq4, hh4⟩ := hQ4
    have N4 := Fr.app N0 Nq4
    show Go p.tables e below s _ _ _ (T4.setTop (mkF m 165 #[.val (.int p1), .val (.int p2), .val (.int p3), .val (.int v1), .val (.int v2), .val (.int v3), .val (.int fl), .val (.int cp)] [(.int (own_min cp (1114111 : Int32)))]))
    show Go p.tables e below s _ _ _ (T4.setTop (mkF m 165 #[.val (.int p1), .val (.int p2), .val (.int p3), .val (.int v1), .val (.int v2), .val (.int v3), .val (.int fl), .val (.int cp)] [(.int (own_min cp (1114111 : Int32)))]))
    generalize hv5 : (own_min cp (1114111 : Int32)) = v5
    refine g_istore X4 hx hby at_165 (pc' := 167) rfl (L' := #[.val (.int p1), .val (.int p2), .val (.int p3), .val (.int v1), .val (.int v2), .val (.int v3), .val (.int fl), .val (.int v5)]) rfl ?_
    refine g_iload X4 hx hby at_167 (pc' := 169) rfl rfl ?_
    refine Go.callS X4 hx hZ (y := (⟨"trimwire/catalog/Names", "isTextCharacter", "(I)Z"⟩ : MethodName)) hown (wi hw 8 rfl) (wi hw 9 rfl) (wi hw 10 rfl) (wi hw 11 rfl) (by decide) hh4 (argsL := [(.int v5)]) (rest := []) (W := 0) (rm2 l Z a0 hw v5 h0 n0 Z0) (hb hby at_169) (by rw [hml]; rfl) rfl pd_aIzZ rfl rfl (by decide) (by decide) (by decide) (by decide) ?_
    intro v6 T6 L6 X6 hQ6
    obtain ⟨rfl, Nq6, hh6⟩ := hQ6
    have N6 := Fr.app N4 Nq6
    show Go p.tables e below s _ _ _ (T6.setTop (mkF m 172 #[.val (.int p1), .val (.int p2), .val (.int p3), .val (.int v1), .val (.int v2), .val (.int v3), .val (.int fl), .val (.int v5)] [(.int (own_text v5))]))
    have hmn : 0 ≤ v5.toInt := by
      rw [← hv5]
      unfold own_min
      split
      · decide
      · exact hJ158
    refine g_iload X6 hx hby at_172 (pc' := 174) rfl rfl ?_
    refine Go.callS X6 hx hZ (y := (⟨"trimwire/catalog/NamesIsTextCharacterPinLaw", "expected", "(I)Z"⟩ : MethodName)) hown (wi hw 15 rfl) (wi hw 16 rfl) (wi hw 17 rfl) (wi hw 18 rfl) (by decide) hh6 (argsL := [(.int v5)]) (rest := [(.int (own_text v5))]) (W := 1) (rm3 l Z a0 hw v5 h0 n0 Z0) (hb hby at_174) (by rw [hml]; rfl) rfl pd_aIzZ rfl rfl (by decide) (by decide) (by decide) (by decide) ?_
    intro v7 T7 L7 X7 hQ7
    obtain ⟨rfl, Nq7, hh7⟩ := hQ7
    have N7 := Fr.app N6 Nq7
    show Go p.tables e below s _ _ _ (T7.setTop (mkF m 177 #[.val (.int p1), .val (.int p2), .val (.int p3), .val (.int v1), .val (.int v2), .val (.int v3), .val (.int fl), .val (.int v5)] [(.int (own_exp v5)), (.int (own_text v5))]))
    rw [own_eq v5 hmn]
    show Go p.tables e below s _ _ _ (T7.setTop (mkF m 177 #[.val (.int p1), .val (.int p2), .val (.int p3), .val (.int v1), .val (.int v2), .val (.int v3), .val (.int fl), .val (.int v5)] [(.int (own_exp v5)), (.int (own_exp v5))]))
    have hc177 : (own_exp v5).toInt = (own_exp v5).toInt := rfl
    refine g_icmpNo X7 hx hby at_177 (pc' := 180) (teq (show (own_exp v5) = (own_exp v5) from Int32.toInt_inj.mp hc177)).2 rfl ?_
    refine g_iconst X7 hx hby at_180 (pc' := 181) rfl (z := (1 : Int32)) rfl ?_
    refine g_goto X7 hx hby at_181 (pc' := 185) (by decide) (by decide) ?_
    refine Go.retZ X7 hx hlk hret (by simp) (hb hby at_185) (by decide) (by decide) ?_
    exact ⟨rfl, N7⟩
  intro J158
  refine g_iloadN X0 hx hby at_23 (pc' := 24) rfl rfl ?_
  refine g_iconst X0 hx hby at_24 (pc' := 25) rfl (z := (3 : Int32)) rfl ?_
  refine g_ishr X0 hx hby at_25 (pc' := 26) rfl rfl ?_
  refine g_iconst X0 hx hby at_26 (pc' := 27) rfl (z := (1 : Int32)) rfl ?_
  refine g_iand X0 hx hby at_27 (pc' := 28) rfl rfl ?_
  by_cases hc28 : ((p2 >>> ((3 : Int32) &&& 31)) &&& (1 : Int32)).toInt = (0 : Int)
  · refine g_ifYes X0 hx hby at_28 (pc' := 35) (teq (show ((p2 >>> ((3 : Int32) &&& 31)) &&& (1 : Int32)) = (0 : Int32) from Int32.toInt_inj.mp hc28)).1 (by decide) (by decide) ?_
    refine g_iconst X0 hx hby at_35 (pc' := 36) rfl (z := (0 : Int32)) rfl ?_
    refine g_istore X0 hx hby at_36 (pc' := 38) rfl (L' := #[.val (.int p1), .val (.int p2), .val (.int p3), .val (.int v1), .val (.int v2), .val (.int v3), .val (.int (0 : Int32)), .unset]) rfl ?_
    refine g_iload X0 hx hby at_38 (pc' := 40) rfl rfl ?_
    by_cases hc40 : v2.toInt = (0 : Int)
    · refine g_ifNo X0 hx hby at_40 (pc' := 43) (teq (show v2 = (0 : Int32) from Int32.toInt_inj.mp hc40)).2 rfl ?_
      refine g_bipush X0 hx hby at_43 (pc' := 45) rfl (z := (32 : Int32)) rfl ?_
      refine g_iload X0 hx hby at_45 (pc' := 47) rfl rfl ?_
      refine g_iadd X0 hx hby at_47 (pc' := 48) rfl rfl ?_
      show Go p.tables e below s _ _ _ (T0.setTop (mkF m 48 #[.val (.int p1), .val (.int p2), .val (.int p3), .val (.int v1), .val (.int v2), .val (.int v3), .val (.int (0 : Int32)), .unset] [(.int ((32 : Int32) + v3))]))
      generalize hv8 : ((32 : Int32) + v3) = v8
      refine g_istore X0 hx hby at_48 (pc' := 50) rfl (L' := #[.val (.int p1), .val (.int p2), .val (.int p3), .val (.int v1), .val (.int v2), .val (.int v3), .val (.int (0 : Int32)), .val (.int v8)]) rfl ?_
      refine g_iload X0 hx hby at_50 (pc' := 52) rfl rfl ?_
      have hc52 : (0 : Int) = (0 : Int) := by decide
      refine g_ifYes X0 hx hby at_52 (pc' := 158) (teq (show (0 : Int32) = (0 : Int32) from Int32.toInt_inj.mp hc52)).1 (by decide) (by decide) ?_
      exact J158 ((0 : Int32), v8) (show 0 ≤ v8.toInt from by rw [← hv8]; have : (((32 : Int32) + v3).toInt - ((32) + v3.toInt)) % 4294967296 = 0 := c_iadd _ _; have : -2147483648 ≤ ((32 : Int32) + v3).toInt ∧ ((32 : Int32) + v3).toInt < 2147483648 := rng32 _; have : -2147483648 ≤ v3.toInt ∧ v3.toInt < 2147483648 := rng32 _; omega)
    · refine g_ifYes X0 hx hby at_40 (pc' := 67) (feq (show ¬ (v2 = (0 : Int32)) from fun q => hc40 (congrArg Int32.toInt q))).2 (by decide) (by decide) ?_
      refine g_iload X0 hx hby at_67 (pc' := 69) rfl rfl ?_
      refine g_iconst X0 hx hby at_69 (pc' := 70) rfl (z := (1 : Int32)) rfl ?_
      by_cases hc70 : v2.toInt = (1 : Int)
      · refine g_icmpNo X0 hx hby at_70 (pc' := 73) (teq (show v2 = (1 : Int32) from Int32.toInt_inj.mp hc70)).2 rfl ?_
        refine g_sipush X0 hx hby at_73 (pc' := 76) rfl (z := (144 : Int32)) rfl ?_
        refine g_iload X0 hx hby at_76 (pc' := 78) rfl rfl ?_
        refine g_iadd X0 hx hby at_78 (pc' := 79) rfl rfl ?_
        show Go p.tables e below s _ _ _ (T0.setTop (mkF m 79 #[.val (.int p1), .val (.int p2), .val (.int p3), .val (.int v1), .val (.int v2), .val (.int v3), .val (.int (0 : Int32)), .unset] [(.int ((144 : Int32) + v3))]))
        generalize hv9 : ((144 : Int32) + v3) = v9
        refine g_istore X0 hx hby at_79 (pc' := 81) rfl (L' := #[.val (.int p1), .val (.int p2), .val (.int p3), .val (.int v1), .val (.int v2), .val (.int v3), .val (.int (0 : Int32)), .val (.int v9)]) rfl ?_
        refine g_iload X0 hx hby at_81 (pc' := 83) rfl rfl ?_
        have hc83 : (0 : Int) = (0 : Int) := by decide
        refine g_ifYes X0 hx hby at_83 (pc' := 158) (teq (show (0 : Int32) = (0 : Int32) from Int32.toInt_inj.mp hc83)).1 (by decide) (by decide) ?_
        exact J158 ((0 : Int32), v9) (show 0 ≤ v9.toInt from by rw [← hv9]; have : (((144 : Int32) + v3).toInt - ((144) + v3.toInt)) % 4294967296 = 0 := c_iadd _ _; have : -2147483648 ≤ ((144 : Int32) + v3).toInt ∧ ((144 : Int32) + v3).toInt < 2147483648 := rng32 _; have : -2147483648 ≤ v3.toInt ∧ v3.toInt < 2147483648 := rng32 _; omega)
      · refine g_icmpYes X0 hx hby at_70 (pc' := 98) (feq (show ¬ (v2 = (1 : Int32)) from fun q => hc70 (congrArg Int32.toInt q))).2 (by decide) (by decide) ?_
        refine g_iload X0 hx hby at_98 (pc' := 100) rfl rfl ?_
        refine g_iconst X0 hx hby at_100 (pc' := 101) rfl (z := (2 : Int32)) rfl ?_
        by_cases hc101 : v2.toInt = (2 : Int)
        · refine g_icmpNo X0 hx hby at_101 (pc' := 104) (teq (show v2 = (2 : Int32) from Int32.toInt_inj.mp hc101)).2 rfl ?_
          refine g_ldcI X0 hx hby hZ hown (wi hw 24 rfl) at_104 (pc' := 106) rfl ?_
          refine g_iload X0 hx hby at_106 (pc' := 108) rfl rfl ?_
          refine g_iadd X0 hx hby at_108 (pc' := 109) rfl rfl ?_
          show Go p.tables e below s _ _ _ (T0.setTop (mkF m 109 #[.val (.int p1), .val (.int p2), .val (.int p3), .val (.int v1), .val (.int v2), .val (.int v3), .val (.int (0 : Int32)), .unset] [(.int ((64992 : Int32) + v3))]))
          generalize hv10 : ((64992 : Int32) + v3) = v10
          refine g_istore X0 hx hby at_109 (pc' := 111) rfl (L' := #[.val (.int p1), .val (.int p2), .val (.int p3), .val (.int v1), .val (.int v2), .val (.int v3), .val (.int (0 : Int32)), .val (.int v10)]) rfl ?_
          refine g_iload X0 hx hby at_111 (pc' := 113) rfl rfl ?_
          have hc113 : (0 : Int) = (0 : Int) := by decide
          refine g_ifYes X0 hx hby at_113 (pc' := 158) (teq (show (0 : Int32) = (0 : Int32) from Int32.toInt_inj.mp hc113)).1 (by decide) (by decide) ?_
          exact J158 ((0 : Int32), v10) (show 0 ≤ v10.toInt from by rw [← hv10]; have : (((64992 : Int32) + v3).toInt - ((64992) + v3.toInt)) % 4294967296 = 0 := c_iadd _ _; have : -2147483648 ≤ ((64992 : Int32) + v3).toInt ∧ ((64992 : Int32) + v3).toInt < 2147483648 := rng32 _; have : -2147483648 ≤ v3.toInt ∧ v3.toInt < 2147483648 := rng32 _; omega)
        · refine g_icmpYes X0 hx hby at_101 (pc' := 128) (feq (show ¬ (v2 = (2 : Int32)) from fun q => hc101 (congrArg Int32.toInt q))).2 (by decide) (by decide) ?_
          refine g_iload X0 hx hby at_128 (pc' := 130) rfl rfl ?_
          refine g_iconst X0 hx hby at_130 (pc' := 131) rfl (z := (3 : Int32)) rfl ?_
          by_cases hc131 : v2.toInt = (3 : Int)
          · refine g_icmpNo X0 hx hby at_131 (pc' := 134) (teq (show v2 = (3 : Int32) from Int32.toInt_inj.mp hc131)).2 rfl ?_
            refine g_iloadN X0 hx hby at_134 (pc' := 135) rfl rfl ?_
            refine g_ldcI X0 hx hby hZ hown (wi hw 1 rfl) at_135 (pc' := 137) rfl ?_
            refine g_imul X0 hx hby at_137 (pc' := 138) rfl rfl ?_
            refine g_ldcI X0 hx hby hZ hown (wi hw 2 rfl) at_138 (pc' := 140) rfl ?_
            refine g_iadd X0 hx hby at_140 (pc' := 141) rfl rfl ?_
            refine g_iload X0 hx hby at_141 (pc' := 143) rfl rfl ?_
            refine g_iadd X0 hx hby at_143 (pc' := 144) rfl rfl ?_
            show Go p.tables e below s _ _ _ (T0.setTop (mkF m 144 #[.val (.int p1), .val (.int p2), .val (.int p3), .val (.int v1), .val (.int v2), .val (.int v3), .val (.int (0 : Int32)), .unset] [(.int (((v1 * (65536 : Int32)) + (65520 : Int32)) + v3))]))
            generalize hv11 : (((v1 * (65536 : Int32)) + (65520 : Int32)) + v3) = v11
            refine g_istore X0 hx hby at_144 (pc' := 146) rfl (L' := #[.val (.int p1), .val (.int p2), .val (.int p3), .val (.int v1), .val (.int v2), .val (.int v3), .val (.int (0 : Int32)), .val (.int v11)]) rfl ?_
            refine g_goto X0 hx hby at_146 (pc' := 158) (by decide) (by decide) ?_
            exact J158 ((0 : Int32), v11) (show 0 ≤ v11.toInt from by rw [← hv11]; have : ((((v1 * (65536 : Int32)) + (65520 : Int32)) + v3).toInt - (((v1 * (65536 : Int32)) + (65520 : Int32)).toInt + v3.toInt)) % 4294967296 = 0 := c_iadd _ _; have : -2147483648 ≤ (((v1 * (65536 : Int32)) + (65520 : Int32)) + v3).toInt ∧ (((v1 * (65536 : Int32)) + (65520 : Int32)) + v3).toInt < 2147483648 := rng32 _; have : (((v1 * (65536 : Int32)) + (65520 : Int32)).toInt - ((v1 * (65536 : Int32)).toInt + (65520))) % 4294967296 = 0 := c_iadd _ _; have : -2147483648 ≤ ((v1 * (65536 : Int32)) + (65520 : Int32)).toInt ∧ ((v1 * (65536 : Int32)) + (65520 : Int32)).toInt < 2147483648 := rng32 _; have : ((v1 * (65536 : Int32)).toInt - (v1.toInt * (65536))) % 4294967296 = 0 := c_imul _ _; have : -2147483648 ≤ (v1 * (65536 : Int32)).toInt ∧ (v1 * (65536 : Int32)).toInt < 2147483648 := rng32 _; have : -2147483648 ≤ v1.toInt ∧ v1.toInt < 2147483648 := rng32 _; have : -2147483648 ≤ v3.toInt ∧ v3.toInt < 2147483648 := rng32 _; omega)
          · refine g_icmpYes X0 hx hby at_131 (pc' := 149) (feq (show ¬ (v2 = (3 : Int32)) from fun q => hc131 (congrArg Int32.toInt q))).2 (by decide) (by decide) ?_
            refine g_iloadN X0 hx hby at_149 (pc' := 150) rfl rfl ?_
            refine g_ldcI X0 hx hby hZ hown (wi hw 0 rfl) at_150 (pc' := 152) rfl ?_
            refine g_iand X0 hx hby at_152 (pc' := 153) rfl rfl ?_
            refine g_ldcI X0 hx hby hZ hown (wi hw 23 rfl) at_153 (pc' := 155) rfl ?_
            refine g_irem X0 hx hby at_155 (pc' := 156) rfl (by decide) rfl ?_
            show Go p.tables e below s _ _ _ (T0.setTop (mkF m 156 #[.val (.int p1), .val (.int p2), .val (.int p3), .val (.int v1), .val (.int v2), .val (.int v3), .val (.int (0 : Int32)), .unset] [(.int ((p1 &&& (2147483647 : Int32)) % (1114112 : Int32)))]))
            generalize hv12 : ((p1 &&& (2147483647 : Int32)) % (1114112 : Int32)) = v12
            refine g_istore X0 hx hby at_156 (pc' := 158) rfl (L' := #[.val (.int p1), .val (.int p2), .val (.int p3), .val (.int v1), .val (.int v2), .val (.int v3), .val (.int (0 : Int32)), .val (.int v12)]) rfl ?_
            exact J158 ((0 : Int32), v12) (show 0 ≤ v12.toInt from by rw [← hv12]; have : (0 ≤ (p1 &&& (2147483647 : Int32)).toInt → ((p1 &&& (2147483647 : Int32)) % (1114112 : Int32)).toInt = (p1 &&& (2147483647 : Int32)).toInt % 1114112) ∧ ((p1 &&& (2147483647 : Int32)).toInt < 0 → ((p1 &&& (2147483647 : Int32)) % (1114112 : Int32)).toInt = -((-(p1 &&& (2147483647 : Int32)).toInt) % 1114112)) := c_irem _ _ 1114112 rfl; have : -2147483648 ≤ ((p1 &&& (2147483647 : Int32)) % (1114112 : Int32)).toInt ∧ ((p1 &&& (2147483647 : Int32)) % (1114112 : Int32)).toInt < 2147483648 := rng32 _; have : (p1 &&& (2147483647 : Int32)).toInt = p1.toInt % 2147483648 := c_mask _ _ 31 (by decide) (by decide); have : -2147483648 ≤ (p1 &&& (2147483647 : Int32)).toInt ∧ (p1 &&& (2147483647 : Int32)).toInt < 2147483648 := rng32 _; have : -2147483648 ≤ p1.toInt ∧ p1.toInt < 2147483648 := rng32 _; omega)
  · refine g_ifNo X0 hx hby at_28 (pc' := 31) (feq (show ¬ (((p2 >>> ((3 : Int32) &&& 31)) &&& (1 : Int32)) = (0 : Int32)) from fun q => hc28 (congrArg Int32.toInt q))).1 rfl ?_
    refine g_iconst X0 hx hby at_31 (pc' := 32) rfl (z := (1 : Int32)) rfl ?_
    refine g_goto X0 hx hby at_32 (pc' := 36) (by decide) (by decide) ?_
    refine g_istore X0 hx hby at_36 (pc' := 38) rfl (L' := #[.val (.int p1), .val (.int p2), .val (.int p3), .val (.int v1), .val (.int v2), .val (.int v3), .val (.int (1 : Int32)), .unset]) rfl ?_
    refine g_iload X0 hx hby at_38 (pc' := 40) rfl rfl ?_
    by_cases hc40 : v2.toInt = (0 : Int)
    · refine g_ifNo X0 hx hby at_40 (pc' := 43) (teq (show v2 = (0 : Int32) from Int32.toInt_inj.mp hc40)).2 rfl ?_
      refine g_bipush X0 hx hby at_43 (pc' := 45) rfl (z := (32 : Int32)) rfl ?_
      refine g_iload X0 hx hby at_45 (pc' := 47) rfl rfl ?_
      refine g_iadd X0 hx hby at_47 (pc' := 48) rfl rfl ?_
      show Go p.tables e below s _ _ _ (T0.setTop (mkF m 48 #[.val (.int p1), .val (.int p2), .val (.int p3), .val (.int v1), .val (.int v2), .val (.int v3), .val (.int (1 : Int32)), .unset] [(.int ((32 : Int32) + v3))]))
      generalize hv13 : ((32 : Int32) + v3) = v13
      refine g_istore X0 hx hby at_48 (pc' := 50) rfl (L' := #[.val (.int p1), .val (.int p2), .val (.int p3), .val (.int v1), .val (.int v2), .val (.int v3), .val (.int (1 : Int32)), .val (.int v13)]) rfl ?_
      refine g_iload X0 hx hby at_50 (pc' := 52) rfl rfl ?_
      have hc52 : ¬ ((1 : Int) = (0 : Int)) := by decide
      refine g_ifNo X0 hx hby at_52 (pc' := 55) (feq (show ¬ ((1 : Int32) = (0 : Int32)) from fun q => hc52 (congrArg Int32.toInt q))).1 rfl ?_
      refine g_iload X0 hx hby at_55 (pc' := 57) rfl rfl ?_
      refine g_iloadN X0 hx hby at_57 (pc' := 58) rfl rfl ?_
      refine g_ldcI X0 hx hby hZ hown (wi hw 1 rfl) at_58 (pc' := 60) rfl ?_
      refine g_imul X0 hx hby at_60 (pc' := 61) rfl rfl ?_
      refine g_iadd X0 hx hby at_61 (pc' := 62) rfl rfl ?_
      show Go p.tables e below s _ _ _ (T0.setTop (mkF m 62 #[.val (.int p1), .val (.int p2), .val (.int p3), .val (.int v1), .val (.int v2), .val (.int v3), .val (.int (1 : Int32)), .val (.int v13)] [(.int (v13 + (v1 * (65536 : Int32))))]))
      generalize hv14 : (v13 + (v1 * (65536 : Int32))) = v14
      refine g_istore X0 hx hby at_62 (pc' := 64) rfl (L' := #[.val (.int p1), .val (.int p2), .val (.int p3), .val (.int v1), .val (.int v2), .val (.int v3), .val (.int (1 : Int32)), .val (.int v14)]) rfl ?_
      refine g_goto X0 hx hby at_64 (pc' := 158) (by decide) (by decide) ?_
      exact J158 ((1 : Int32), v14) (show 0 ≤ v14.toInt from by rw [← hv14, ← hv13]; have : ((((32 : Int32) + v3) + (v1 * (65536 : Int32))).toInt - (((32 : Int32) + v3).toInt + (v1 * (65536 : Int32)).toInt)) % 4294967296 = 0 := c_iadd _ _; have : -2147483648 ≤ (((32 : Int32) + v3) + (v1 * (65536 : Int32))).toInt ∧ (((32 : Int32) + v3) + (v1 * (65536 : Int32))).toInt < 2147483648 := rng32 _; have : (((32 : Int32) + v3).toInt - ((32) + v3.toInt)) % 4294967296 = 0 := c_iadd _ _; have : -2147483648 ≤ ((32 : Int32) + v3).toInt ∧ ((32 : Int32) + v3).toInt < 2147483648 := rng32 _; have : -2147483648 ≤ v3.toInt ∧ v3.toInt < 2147483648 := rng32 _; have : ((v1 * (65536 : Int32)).toInt - (v1.toInt * (65536))) % 4294967296 = 0 := c_imul _ _; have : -2147483648 ≤ (v1 * (65536 : Int32)).toInt ∧ (v1 * (65536 : Int32)).toInt < 2147483648 := rng32 _; have : -2147483648 ≤ v1.toInt ∧ v1.toInt < 2147483648 := rng32 _; omega)
    · refine g_ifYes X0 hx hby at_40 (pc' := 67) (feq (show ¬ (v2 = (0 : Int32)) from fun q => hc40 (congrArg Int32.toInt q))).2 (by decide) (by decide) ?_
      refine g_iload X0 hx hby at_67 (pc' := 69) rfl rfl ?_
      refine g_iconst X0 hx hby at_69 (pc' := 70) rfl (z := (1 : Int32)) rfl ?_
      by_cases hc70 : v2.toInt = (1 : Int)
      · refine g_icmpNo X0 hx hby at_70 (pc' := 73) (teq (show v2 = (1 : Int32) from Int32.toInt_inj.mp hc70)).2 rfl ?_
        refine g_sipush X0 hx hby at_73 (pc' := 76) rfl (z := (144 : Int32)) rfl ?_
        refine g_iload X0 hx hby at_76 (pc' := 78) rfl rfl ?_
        refine g_iadd X0 hx hby at_78 (pc' := 79) rfl rfl ?_
        show Go p.tables e below s _ _ _ (T0.setTop (mkF m 79 #[.val (.int p1), .val (.int p2), .val (.int p3), .val (.int v1), .val (.int v2), .val (.int v3), .val (.int (1 : Int32)), .unset] [(.int ((144 : Int32) + v3))]))
        generalize hv15 : ((144 : Int32) + v3) = v15
        refine g_istore X0 hx hby at_79 (pc' := 81) rfl (L' := #[.val (.int p1), .val (.int p2), .val (.int p3), .val (.int v1), .val (.int v2), .val (.int v3), .val (.int (1 : Int32)), .val (.int v15)]) rfl ?_
        refine g_iload X0 hx hby at_81 (pc' := 83) rfl rfl ?_
        have hc83 : ¬ ((1 : Int) = (0 : Int)) := by decide
        refine g_ifNo X0 hx hby at_83 (pc' := 86) (feq (show ¬ ((1 : Int32) = (0 : Int32)) from fun q => hc83 (congrArg Int32.toInt q))).1 rfl ?_
        refine g_iload X0 hx hby at_86 (pc' := 88) rfl rfl ?_
        refine g_iloadN X0 hx hby at_88 (pc' := 89) rfl rfl ?_
        refine g_ldcI X0 hx hby hZ hown (wi hw 1 rfl) at_89 (pc' := 91) rfl ?_
        refine g_imul X0 hx hby at_91 (pc' := 92) rfl rfl ?_
        refine g_iadd X0 hx hby at_92 (pc' := 93) rfl rfl ?_
        show Go p.tables e below s _ _ _ (T0.setTop (mkF m 93 #[.val (.int p1), .val (.int p2), .val (.int p3), .val (.int v1), .val (.int v2), .val (.int v3), .val (.int (1 : Int32)), .val (.int v15)] [(.int (v15 + (v1 * (65536 : Int32))))]))
        generalize hv16 : (v15 + (v1 * (65536 : Int32))) = v16
        refine g_istore X0 hx hby at_93 (pc' := 95) rfl (L' := #[.val (.int p1), .val (.int p2), .val (.int p3), .val (.int v1), .val (.int v2), .val (.int v3), .val (.int (1 : Int32)), .val (.int v16)]) rfl ?_
        refine g_goto X0 hx hby at_95 (pc' := 158) (by decide) (by decide) ?_
        exact J158 ((1 : Int32), v16) (show 0 ≤ v16.toInt from by rw [← hv16, ← hv15]; have : ((((144 : Int32) + v3) + (v1 * (65536 : Int32))).toInt - (((144 : Int32) + v3).toInt + (v1 * (65536 : Int32)).toInt)) % 4294967296 = 0 := c_iadd _ _; have : -2147483648 ≤ (((144 : Int32) + v3) + (v1 * (65536 : Int32))).toInt ∧ (((144 : Int32) + v3) + (v1 * (65536 : Int32))).toInt < 2147483648 := rng32 _; have : (((144 : Int32) + v3).toInt - ((144) + v3.toInt)) % 4294967296 = 0 := c_iadd _ _; have : -2147483648 ≤ ((144 : Int32) + v3).toInt ∧ ((144 : Int32) + v3).toInt < 2147483648 := rng32 _; have : -2147483648 ≤ v3.toInt ∧ v3.toInt < 2147483648 := rng32 _; have : ((v1 * (65536 : Int32)).toInt - (v1.toInt * (65536))) % 4294967296 = 0 := c_imul _ _; have : -2147483648 ≤ (v1 * (65536 : Int32)).toInt ∧ (v1 * (65536 : Int32)).toInt < 2147483648 := rng32 _; have : -2147483648 ≤ v1.toInt ∧ v1.toInt < 2147483648 := rng32 _; omega)
      · refine g_icmpYes X0 hx hby at_70 (pc' := 98) (feq (show ¬ (v2 = (1 : Int32)) from fun q => hc70 (congrArg Int32.toInt q))).2 (by decide) (by decide) ?_
        refine g_iload X0 hx hby at_98 (pc' := 100) rfl rfl ?_
        refine g_iconst X0 hx hby at_100 (pc' := 101) rfl (z := (2 : Int32)) rfl ?_
        by_cases hc101 : v2.toInt = (2 : Int)
        · refine g_icmpNo X0 hx hby at_101 (pc' := 104) (teq (show v2 = (2 : Int32) from Int32.toInt_inj.mp hc101)).2 rfl ?_
          refine g_ldcI X0 hx hby hZ hown (wi hw 24 rfl) at_104 (pc' := 106) rfl ?_
          refine g_iload X0 hx hby at_106 (pc' := 108) rfl rfl ?_
          refine g_iadd X0 hx hby at_108 (pc' := 109) rfl rfl ?_
          show Go p.tables e below s _ _ _ (T0.setTop (mkF m 109 #[.val (.int p1), .val (.int p2), .val (.int p3), .val (.int v1), .val (.int v2), .val (.int v3), .val (.int (1 : Int32)), .unset] [(.int ((64992 : Int32) + v3))]))
          generalize hv17 : ((64992 : Int32) + v3) = v17
          refine g_istore X0 hx hby at_109 (pc' := 111) rfl (L' := #[.val (.int p1), .val (.int p2), .val (.int p3), .val (.int v1), .val (.int v2), .val (.int v3), .val (.int (1 : Int32)), .val (.int v17)]) rfl ?_
          refine g_iload X0 hx hby at_111 (pc' := 113) rfl rfl ?_
          have hc113 : ¬ ((1 : Int) = (0 : Int)) := by decide
          refine g_ifNo X0 hx hby at_113 (pc' := 116) (feq (show ¬ ((1 : Int32) = (0 : Int32)) from fun q => hc113 (congrArg Int32.toInt q))).1 rfl ?_
          refine g_iload X0 hx hby at_116 (pc' := 118) rfl rfl ?_
          refine g_iloadN X0 hx hby at_118 (pc' := 119) rfl rfl ?_
          refine g_ldcI X0 hx hby hZ hown (wi hw 1 rfl) at_119 (pc' := 121) rfl ?_
          refine g_imul X0 hx hby at_121 (pc' := 122) rfl rfl ?_
          refine g_iadd X0 hx hby at_122 (pc' := 123) rfl rfl ?_
          show Go p.tables e below s _ _ _ (T0.setTop (mkF m 123 #[.val (.int p1), .val (.int p2), .val (.int p3), .val (.int v1), .val (.int v2), .val (.int v3), .val (.int (1 : Int32)), .val (.int v17)] [(.int (v17 + (v1 * (65536 : Int32))))]))
          generalize hv18 : (v17 + (v1 * (65536 : Int32))) = v18
          refine g_istore X0 hx hby at_123 (pc' := 125) rfl (L' := #[.val (.int p1), .val (.int p2), .val (.int p3), .val (.int v1), .val (.int v2), .val (.int v3), .val (.int (1 : Int32)), .val (.int v18)]) rfl ?_
          refine g_goto X0 hx hby at_125 (pc' := 158) (by decide) (by decide) ?_
          exact J158 ((1 : Int32), v18) (show 0 ≤ v18.toInt from by rw [← hv18, ← hv17]; have : ((((64992 : Int32) + v3) + (v1 * (65536 : Int32))).toInt - (((64992 : Int32) + v3).toInt + (v1 * (65536 : Int32)).toInt)) % 4294967296 = 0 := c_iadd _ _; have : -2147483648 ≤ (((64992 : Int32) + v3) + (v1 * (65536 : Int32))).toInt ∧ (((64992 : Int32) + v3) + (v1 * (65536 : Int32))).toInt < 2147483648 := rng32 _; have : (((64992 : Int32) + v3).toInt - ((64992) + v3.toInt)) % 4294967296 = 0 := c_iadd _ _; have : -2147483648 ≤ ((64992 : Int32) + v3).toInt ∧ ((64992 : Int32) + v3).toInt < 2147483648 := rng32 _; have : -2147483648 ≤ v3.toInt ∧ v3.toInt < 2147483648 := rng32 _; have : ((v1 * (65536 : Int32)).toInt - (v1.toInt * (65536))) % 4294967296 = 0 := c_imul _ _; have : -2147483648 ≤ (v1 * (65536 : Int32)).toInt ∧ (v1 * (65536 : Int32)).toInt < 2147483648 := rng32 _; have : -2147483648 ≤ v1.toInt ∧ v1.toInt < 2147483648 := rng32 _; omega)
        · refine g_icmpYes X0 hx hby at_101 (pc' := 128) (feq (show ¬ (v2 = (2 : Int32)) from fun q => hc101 (congrArg Int32.toInt q))).2 (by decide) (by decide) ?_
          refine g_iload X0 hx hby at_128 (pc' := 130) rfl rfl ?_
          refine g_iconst X0 hx hby at_130 (pc' := 131) rfl (z := (3 : Int32)) rfl ?_
          by_cases hc131 : v2.toInt = (3 : Int)
          · refine g_icmpNo X0 hx hby at_131 (pc' := 134) (teq (show v2 = (3 : Int32) from Int32.toInt_inj.mp hc131)).2 rfl ?_
            refine g_iloadN X0 hx hby at_134 (pc' := 135) rfl rfl ?_
            refine g_ldcI X0 hx hby hZ hown (wi hw 1 rfl) at_135 (pc' := 137) rfl ?_
            refine g_imul X0 hx hby at_137 (pc' := 138) rfl rfl ?_
            refine g_ldcI X0 hx hby hZ hown (wi hw 2 rfl) at_138 (pc' := 140) rfl ?_
            refine g_iadd X0 hx hby at_140 (pc' := 141) rfl rfl ?_
            refine g_iload X0 hx hby at_141 (pc' := 143) rfl rfl ?_
            refine g_iadd X0 hx hby at_143 (pc' := 144) rfl rfl ?_
            show Go p.tables e below s _ _ _ (T0.setTop (mkF m 144 #[.val (.int p1), .val (.int p2), .val (.int p3), .val (.int v1), .val (.int v2), .val (.int v3), .val (.int (1 : Int32)), .unset] [(.int (((v1 * (65536 : Int32)) + (65520 : Int32)) + v3))]))
            generalize hv19 : (((v1 * (65536 : Int32)) + (65520 : Int32)) + v3) = v19
            refine g_istore X0 hx hby at_144 (pc' := 146) rfl (L' := #[.val (.int p1), .val (.int p2), .val (.int p3), .val (.int v1), .val (.int v2), .val (.int v3), .val (.int (1 : Int32)), .val (.int v19)]) rfl ?_
            refine g_goto X0 hx hby at_146 (pc' := 158) (by decide) (by decide) ?_
            exact J158 ((1 : Int32), v19) (show 0 ≤ v19.toInt from by rw [← hv19]; have : ((((v1 * (65536 : Int32)) + (65520 : Int32)) + v3).toInt - (((v1 * (65536 : Int32)) + (65520 : Int32)).toInt + v3.toInt)) % 4294967296 = 0 := c_iadd _ _; have : -2147483648 ≤ (((v1 * (65536 : Int32)) + (65520 : Int32)) + v3).toInt ∧ (((v1 * (65536 : Int32)) + (65520 : Int32)) + v3).toInt < 2147483648 := rng32 _; have : (((v1 * (65536 : Int32)) + (65520 : Int32)).toInt - ((v1 * (65536 : Int32)).toInt + (65520))) % 4294967296 = 0 := c_iadd _ _; have : -2147483648 ≤ ((v1 * (65536 : Int32)) + (65520 : Int32)).toInt ∧ ((v1 * (65536 : Int32)) + (65520 : Int32)).toInt < 2147483648 := rng32 _; have : ((v1 * (65536 : Int32)).toInt - (v1.toInt * (65536))) % 4294967296 = 0 := c_imul _ _; have : -2147483648 ≤ (v1 * (65536 : Int32)).toInt ∧ (v1 * (65536 : Int32)).toInt < 2147483648 := rng32 _; have : -2147483648 ≤ v1.toInt ∧ v1.toInt < 2147483648 := rng32 _; have : -2147483648 ≤ v3.toInt ∧ v3.toInt < 2147483648 := rng32 _; omega)
          · refine g_icmpYes X0 hx hby at_131 (pc' := 149) (feq (show ¬ (v2 = (3 : Int32)) from fun q => hc131 (congrArg Int32.toInt q))).2 (by decide) (by decide) ?_
            refine g_iloadN X0 hx hby at_149 (pc' := 150) rfl rfl ?_
            refine g_ldcI X0 hx hby hZ hown (wi hw 0 rfl) at_150 (pc' := 152) rfl ?_
            refine g_iand X0 hx hby at_152 (pc' := 153) rfl rfl ?_
            refine g_ldcI X0 hx hby hZ hown (wi hw 23 rfl) at_153 (pc' := 155) rfl ?_
            refine g_irem X0 hx hby at_155 (pc' := 156) rfl (by decide) rfl ?_
            show Go p.tables e below s _ _ _ (T0.setTop (mkF m 156 #[.val (.int p1), .val (.int p2), .val (.int p3), .val (.int v1), .val (.int v2), .val (.int v3), .val (.int (1 : Int32)), .unset] [(.int ((p1 &&& (2147483647 : Int32)) % (1114112 : Int32)))]))
            generalize hv20 : ((p1 &&& (2147483647 : Int32)) % (1114112 : Int32)) = v20
            refine g_istore X0 hx hby at_156 (pc' := 158) rfl (L' := #[.val (.int p1), .val (.int p2), .val (.int p3), .val (.int v1), .val (.int v2), .val (.int v3), .val (.int (1 : Int32)), .val (.int v20)]) rfl ?_
            exact J158 ((1 : Int32), v20) (show 0 ≤ v20.toInt from by rw [← hv20]; have : (0 ≤ (p1 &&& (2147483647 : Int32)).toInt → ((p1 &&& (2147483647 : Int32)) % (1114112 : Int32)).toInt = (p1 &&& (2147483647 : Int32)).toInt % 1114112) ∧ ((p1 &&& (2147483647 : Int32)).toInt < 0 → ((p1 &&& (2147483647 : Int32)) % (1114112 : Int32)).toInt = -((-(p1 &&& (2147483647 : Int32)).toInt) % 1114112)) := c_irem _ _ 1114112 rfl; have : -2147483648 ≤ ((p1 &&& (2147483647 : Int32)) % (1114112 : Int32)).toInt ∧ ((p1 &&& (2147483647 : Int32)) % (1114112 : Int32)).toInt < 2147483648 := rng32 _; have : (p1 &&& (2147483647 : Int32)).toInt = p1.toInt % 2147483648 := c_mask _ _ 31 (by decide) (by decide); have : -2147483648 ≤ (p1 &&& (2147483647 : Int32)).toInt ∧ (p1 &&& (2147483647 : Int32)).toInt < 2147483648 := rng32 _; have : -2147483648 ≤ p1.toInt ∧ p1.toInt < 2147483648 := rng32 _; omega)
set_option maxRecDepth 65536 in
set_option maxHeartbeats 40000000 in
theorem comes_1 {Post : Tables → Env → Array Value → State → Outcome → State → Prop} (hpost : ∀ tb e args s v u, (limb_1_1.after args s (.returned v) u = true ∧ limb_1_2.after args s (.returned v) u = true) → FrameEnd s (.returned v) u (Jvm.fieldLocs frame_1_writes args s ++ Jvm.arrayLocs frame_1_arrays args s ++ Jvm.staticLocs frame_1_statics s) 0 0 → Post tb e args s (.returned v) u) :
    ArmFor flags0 classFile x code maxLocals ret World_1 tables_1 room_1 Calls_1 rest_1 Pre_1 Post := by
  intro l hfl _ _ p e ha hc hk s m args below hf hA hF happ hP
  obtain ⟨hcalls, hrest, hpre⟩ := hP
  obtain ⟨-, -, -, hnamed, -, -, -, hat⟩ := (Spec.applies_iff hf).mp happ
  obtain ⟨hg, hn⟩ := and_e (Cond.before_iff.mp (show (Jvm.Cond.and given_1 narrow_1).before args s = true from hpre))
  obtain ⟨g0, r0⟩ := and_e hg
  obtain ⟨g1, r1⟩ := and_e r0
  obtain ⟨g2, g3⟩ := and_e r1
  obtain ⟨w0, w1, w2, rfl⟩ : ∃ w0 w1 w2 : Value, args = #[w0, w1, w2] := by
    have hs : args.size = 3 := by simpa [Cond.value, given_1] using g0
    obtain ⟨L⟩ := args
    match L, hs with
    | [w0, w1, w2], _ => exact ⟨w0, w1, w2, rfl⟩
  have hw := fun d (hd : d ∈ tables_1) => atoms_spec (ws := Jvm.Cond.code x code maxLocals ret :: tables_1) hat d (List.mem_cons_of_mem _ hd)
  have hfit : Fit s := fun {y c} hc i hi => by
    obtain ⟨ha, rfl⟩ := Array.getElem?_eq_some_iff.mp hc
    have q := List.all_eq_true.mp ((Array.all_eq_true_iff_forall_mem.mp hF) _ (Array.getElem_mem ha)) i (List.mem_range.mpr hi)
    simpa [Array.getElem?_eq_getElem hi] using q
  obtain ⟨i0, ei0⟩ := is_v g1
  obtain rfl : w0 = (.int i0) := Option.some.inj ei0
  obtain ⟨i1, ei1⟩ := is_v g2
  obtain rfl : w1 = (.int i1) := Option.some.inj ei1
  obtain ⟨i2, ei2⟩ := is_v g3
  obtain rfl : w2 = (.int i2) := Option.some.inj ei2
  obtain ⟨n, o, h1, h2, h3, _, L, rfl, ⟨rfl, N⟩, hq⟩ := rm0 l s _ hw tables_1 i0 i1 i2 s.heap s.heap.size (Nat.le_refl _)  p e ha hc hk s m _ below hf ((Spec.applies_iff_loose hf).mp happ).1 ⟨rfl, State.Warmed39.refl s, rfl⟩ trivial
  refine ⟨n, _, h1, h2, h3, hpost _ _ _ _ _ _ ⟨Cond.after_iff.mpr rfl, Cond.after_iff.mpr (eq_i res_at (Term.int_eval (1)) rfl)⟩ ⟨hq.1, hq.2.1, (hq.2.2.sift fun y hy => Or.inr (N y hy)).mono (by decide) (by decide)⟩⟩
theorem main_1_1 : Claimed_1_1 := comes_1 fun _ _ _ _ _ _ h hF => ⟨h.1, hF⟩
theorem main_1_2 : Claimed_1_2 := comes_1 fun _ _ _ _ _ _ h hF => ⟨h.2, hF⟩
end Jvm.Pilot.@@N@@
namespace Jvm.Pilot.@@N@@
open Jvm Jvm.ClassFile Sem Op Lib Jvm.Free Jvm.Stand Jvm.Pilot.@@N@@.Jvm.D
/-! MADE BY PROGRAM (witnessworld.py) out of the Statement's table words and the real class files: 10 classes; the members and pool entries that the words name. The judged class is class 1, her method 1. -/
namespace start1
open Jvm.ClassFile
def u (s : String) : CpInfo := .utf8 (stringToUtf16 s)
/-- a pool by its gaps: so many unusable entries, then the entry; so many at the end -/
def gap : Nat → List CpInfo → List CpInfo
  | 0, r => r
  | n + 1, r => .unusable :: gap n r
def poolList (es : List (Nat × CpInfo)) (last : Nat) : List CpInfo := es.foldr (fun e r => gap e.1 (e.2 :: r)) (gap last [])
def pool (es : List (Nat × CpInfo)) (last : Nat) : Array CpInfo := ⟨poolList es last⟩
def fileOf (pool : Array CpInfo) (this : Nat) (attrs : Array Attribute := #[]) (ms : Array MethodInfo := #[]) (fl : Nat := 33) (sup : Nat := 0) (ifs : Array Nat := #[]) (fds : Array FieldInfo := #[]) : ClassFile where
  minorVersion := 0
  majorVersion := 65
  constantPool := pool
  accessFlags := fl
  thisClass := this
  superClass := sup
  interfaces := ifs
  fields := fds
  methods := ms
  attributes := attrs
def plain (name : String) (sup : Option ClassId) : Class where
  name := name
  kind := .ordinary
  loader := none
  accessFlags := 33
  super := sup
  interfaces := #[]
  cf := none
  fields := #[]
  methods := #[]
  instanceTypes := #[]
  staticTypes := #[]
  resolved := #[]
  callSites := []
  init := .initialized
  statics := none
  mirror := none

def pool0 : Array CpInfo := pool [(5, u "<init>"), (0, u "()V"), (1, .class_ 10), (1, u "java/lang/Object")] 113

def k0m0 : Method := { name := "<init>", desc := "()V", sig := { parameters := [], returnType := none }, accessFlags := 1, code := none }
/-- java/lang/Object -/
def k0 : Class := { plain "java/lang/Object" none with
  accessFlags := 33
  interfaces := #[]
  cf := some (fileOf pool0 8 #[] #[{ accessFlags := 1, nameIndex := 5, descriptorIndex := 6, attributes := #[] }] 33 0 #[] #[])
  fields := #[]
  methods := #[k0m0]
  instanceTypes := #[]
  staticTypes := #[]
  resolved := Array.replicate 124 none
  statics := none }

def pool1 : Array CpInfo := pool [(2, .class_ 4), (1, u "java/lang/Object"), (0, u "<init>"), (0, u "()V"), (0, .integer 2147483647), (0, .integer 65536), (0, .integer 64992), (0, .integer 65520), (0, .integer 1114112), (0, .integer 1114111), (0, .methodref 14 15), (0, .class_ 16), (0, .nameAndType 17 18), (0, u "java/lang/Math"), (0, u "min"), (0, u "(II)I"), (0, .methodref 20 21), (0, .class_ 22), (0, .nameAndType 23 24), (0, u "trimwire/catalog/Names"), (0, u "isTextCharacter"), (0, u "(I)Z"), (0, .methodref 26 27), (0, .class_ 28), (0, .nameAndType 29 24), (0, u "trimwire/catalog/NamesIsTextCharacterPinLaw"), (0, u "expected"), (0, .integer 64976), (0, .integer 65007), (0, .integer 65534), (0, .integer 65535), (2, u "law"), (0, u "(III)Z")] 3

def k1m0 : Method := { name := "<init>", desc := "()V", sig := { parameters := [], returnType := none }, accessFlags := 2, code := none }
def k1c1 : Code := { maxStack := 3, maxLocals := 8, code := code, exceptionTable := #[], attributes := #[] }
def k1m1 : Method := { name := "law", desc := "(III)Z", sig := { parameters := [.int, .int, .int], returnType := some .boolean }, accessFlags := 9, code := some k1c1 }
def k1c2 : Code := { maxStack := 2, maxLocals := 2, code := method_3_code, exceptionTable := #[], attributes := #[] }
def k1m2 : Method := { name := "expected", desc := "(I)Z", sig := { parameters := [.int], returnType := some .boolean }, accessFlags := 10, code := some k1c2 }
/-- trimwire/catalog/NamesIsTextCharacterPinLaw -/
def k1 : Class := { plain "trimwire/catalog/NamesIsTextCharacterPinLaw" (some 0) with
  accessFlags := 49
  interfaces := #[]
  cf := some (fileOf pool1 26 #[] #[{ accessFlags := 2, nameIndex := 5, descriptorIndex := 6, attributes := #[] }, { accessFlags := 9, nameIndex := 36, descriptorIndex := 37, attributes := #[] }, { accessFlags := 10, nameIndex := 29, descriptorIndex := 24, attributes := #[] }] 49 2 #[] #[])
  fields := #[]
  methods := #[k1m0, k1m1, k1m2]
  instanceTypes := #[]
  staticTypes := #[]
  resolved := Array.replicate 41 none
  statics := none }

def pool2 : Array CpInfo := pool [(1, .class_ 2), (0, u "java/lang/Math"), (1, .class_ 6), (1, u "java/lang/Object"), (0, u "<init>"), (0, u "()V"), (89, .class_ 100), (1, u "java/lang/Math$RandomNumberGeneratorHolder"), (71, u "negativeZeroFloatBits"), (0, u "J"), (2, u "negativeZeroDoubleBits"), (24, u "min"), (43, u "$assertionsDisabled"), (0, u "Z"), (88, u "(II)I"), (2, u "twoToTheDoubleScaleDown"), (0, u "D"), (4, u "twoToTheDoubleScaleUp"), (9, u "E"), (3, u "PI"), (2, u "TAU"), (2, u "DEGREES_TO_RADIANS"), (0, u "RADIANS_TO_DEGREES")] 94

def k2m0 : Method := { name := "<init>", desc := "()V", sig := { parameters := [], returnType := none }, accessFlags := 2, code := none }
def k2c1 : Code := { maxStack := 2, maxLocals := 2, code := jdk_29_method_69_code, exceptionTable := #[], attributes := #[] }
def k2m1 : Method := { name := "min", desc := "(II)I", sig := { parameters := [.int, .int], returnType := some .int }, accessFlags := 9, code := some k2c1 }
/-- java/lang/Math -/
def k2 : Class := { plain "java/lang/Math" (some 0) with
  accessFlags := 49
  interfaces := #[]
  cf := some (fileOf pool2 1 #[.nestMembers #[98]] #[{ accessFlags := 2, nameIndex := 7, descriptorIndex := 8, attributes := #[] }, { accessFlags := 9, nameIndex := 201, descriptorIndex := 335, attributes := #[] }] 49 4 #[] #[{ accessFlags := 25, nameIndex := 354, descriptorIndex := 339, attributes := #[] }, { accessFlags := 25, nameIndex := 358, descriptorIndex := 339, attributes := #[] }, { accessFlags := 25, nameIndex := 361, descriptorIndex := 339, attributes := #[] }, { accessFlags := 26, nameIndex := 364, descriptorIndex := 339, attributes := #[] }, { accessFlags := 26, nameIndex := 365, descriptorIndex := 339, attributes := #[] }, { accessFlags := 26, nameIndex := 172, descriptorIndex := 173, attributes := #[] }, { accessFlags := 26, nameIndex := 176, descriptorIndex := 173, attributes := #[] }, { accessFlags := 8, nameIndex := 344, descriptorIndex := 339, attributes := #[] }, { accessFlags := 8, nameIndex := 338, descriptorIndex := 339, attributes := #[] }, { accessFlags := 4120, nameIndex := 245, descriptorIndex := 246, attributes := #[] }])
  fields := #[{ name := "E", type := .double, accessFlags := 25, slot := 0, constantValue := 0 }, { name := "PI", type := .double, accessFlags := 25, slot := 1, constantValue := 0 }, { name := "TAU", type := .double, accessFlags := 25, slot := 2, constantValue := 0 }, { name := "DEGREES_TO_RADIANS", type := .double, accessFlags := 26, slot := 3, constantValue := 0 }, { name := "RADIANS_TO_DEGREES", type := .double, accessFlags := 26, slot := 4, constantValue := 0 }, { name := "negativeZeroFloatBits", type := .long, accessFlags := 26, slot := 5, constantValue := 0 }, { name := "negativeZeroDoubleBits", type := .long, accessFlags := 26, slot := 6, constantValue := 0 }, { name := "twoToTheDoubleScaleUp", type := .double, accessFlags := 8, slot := 7, constantValue := 0 }, { name := "twoToTheDoubleScaleDown", type := .double, accessFlags := 8, slot := 8, constantValue := 0 }, { name := "$assertionsDisabled", type := .boolean, accessFlags := 4120, slot := 9, constantValue := 0 }]
  methods := #[k2m0, k2m1]
  instanceTypes := #[]
  staticTypes := #[.double, .double, .double, .double, .double, .long, .long, .double, .double, .boolean]
  resolved := Array.replicate 460 none
  statics := none }

def pool3 : Array CpInfo := pool [(2, .class_ 4), (1, u "java/lang/Object"), (0, u "<init>"), (0, u "()V"), (25, .class_ 34), (1, u "trimwire/catalog/Names"), (6, .integer 64976), (0, .integer 65007), (0, .integer 65534), (62, u "isTextCharacter"), (0, u "(I)Z")] 27

def k3m0 : Method := { name := "<init>", desc := "()V", sig := { parameters := [], returnType := none }, accessFlags := 2, code := none }
def k3c1 : Code := { maxStack := 2, maxLocals := 3, code := prog_5_method_3_code, exceptionTable := #[], attributes := #[] }
def k3m1 : Method := { name := "isTextCharacter", desc := "(I)Z", sig := { parameters := [.int], returnType := some .boolean }, accessFlags := 9, code := some k3c1 }
/-- trimwire/catalog/Names -/
def k3 : Class := { plain "trimwire/catalog/Names" (some 0) with
  accessFlags := 49
  interfaces := #[]
  cf := some (fileOf pool3 32 #[] #[{ accessFlags := 2, nameIndex := 5, descriptorIndex := 6, attributes := #[] }, { accessFlags := 9, nameIndex := 106, descriptorIndex := 107, attributes := #[] }] 49 2 #[] #[])
  fields := #[]
  methods := #[k3m0, k3m1]
  instanceTypes := #[]
  staticTypes := #[]
  resolved := Array.replicate 135 none
  statics := none }

def pool4 : Array CpInfo := pool [(1, u "java/lang/Cloneable"), (0, .class_ 1), (0, u "java/lang/Object"), (0, .class_ 3)] 3

/-- java/lang/Cloneable -/
def k4 : Class := { plain "java/lang/Cloneable" (some 0) with
  accessFlags := 1537
  interfaces := #[]
  cf := some (fileOf pool4 2 #[] #[] 1537 4 #[] #[])
  fields := #[]
  methods := #[]
  instanceTypes := #[]
  staticTypes := #[]
  resolved := Array.replicate 8 none
  statics := none }

def pool5 : Array CpInfo := pool [(1, u "java/io/Serializable"), (0, .class_ 1), (0, u "java/lang/Object"), (0, .class_ 3)] 3

/-- java/io/Serializable -/
def k5 : Class := { plain "java/io/Serializable" (some 0) with
  accessFlags := 1537
  interfaces := #[]
  cf := some (fileOf pool5 2 #[] #[] 1537 4 #[] #[])
  fields := #[]
  methods := #[]
  instanceTypes := #[]
  staticTypes := #[]
  resolved := Array.replicate 8 none
  statics := none }

/-- the primitive byte -/
def k6 : Class := { plain "byte" none with kind := .primitive 'B', accessFlags := 0x411 }
/-- [B -/
def k7 : Class := { plain "[B" (some 0) with kind := .array 6 .byte, interfaces := #[4, 5], accessFlags := 1041 }

/-- the primitive int -/
def k8 : Class := { plain "int" none with kind := .primitive 'I', accessFlags := 0x411 }
/-- [I -/
def k9 : Class := { plain "[I" (some 0) with kind := .array 8 .int, interfaces := #[4, 5], accessFlags := 1041 }

def heap : Heap := #[]
def classes : Array Class := #[k0, k1, k2, k3, k4, k5, k6, k7, k8, k9]
def interned : List (Array UInt16 × Addr) := []
def slotsUsed : Nat := 0
def theMethod : MethodId := ⟨1, 1⟩
def args0 : Array Value := #[.int 5, .int 7, .int 9]
def aboutOver (below : List Frame) : State where
  vm := { classes := classes, interned := interned.toArray }
  heap := heap
  slotsUsed := slotsUsed
  threads := #[{ frames := .invoking theMethod args0 :: below }]
def below0 : List Frame := [.native { method := ⟨0, 0⟩, args := #[] }]
def about1 : State := aboutOver below0
def p0 : Program := .bare "" "" ""
def e0 : Env := launch0.env 0 0 0
theorem w_frames : about1.frames = Frame.invoking theMethod args0 :: below0 := rfl
set_option maxRecDepth 65536 in
theorem w_args : argsFit about1.vm theMethod args0 = true := by decide +kernel
set_option maxRecDepth 65536 in
theorem w_heap : heapFits about1 = true := by decide +kernel
set_option maxRecDepth 65536 in
theorem w_runnable : about1.curStatus? = some .runnable := by decide +kernel
set_option maxRecDepth 65536 in
theorem w_alone : about1.alone = true := by decide +kernel
set_option maxRecDepth 65536 in
theorem w_named : about1.methodNamed? x = some theMethod := by decide +kernel
set_option maxRecDepth 65536 in
theorem w_hears : about1.hears theMethod below0 = true := by decide +kernel
set_option maxRecDepth 65536 in
theorem w_ripe : about1.ripe theMethod args0 below0 = true := by decide +kernel
theorem w_running : about1.status = .running := rfl
set_option maxRecDepth 65536 in
theorem w_room : about1.hasRoom e0.platform room_1 = true :=
  launch0.hasRoom_least _ room_1 (by decide +kernel) (by decide +kernel) (by decide +kernel) (by decide +kernel) (by decide +kernel) (by decide +kernel)
theorem allAtoms_all (ts : List Jvm.Cond) (a : Array Jvm.Value) (st : Jvm.State) : (allAtoms ts).before a st = ts.all (fun c => c.before a st) := by
  induction ts with
  | nil => rfl
  | cons c t ih =>
    show (Jvm.Cond.and c (allAtoms t)).before a st = _
    rw [Jvm.Cond.before_and, ih, List.all_cons]
def words1 : List Jvm.Cond := Jvm.Cond.code x code maxLocals ret :: tables_1
/-- a 'code' word, met by the world's own term for the bytes: nothing is compared byte by byte -/
theorem code_word {y : MethodName} {bytes : ByteArray} {mx : Nat} {rt : Option FieldType} {a : Array Value} {s : State} {m : MethodId} {meth : Method} {c : Code} (h1 : s.methodNamed? y = some m) (h2 : s.vm.method? m = some meth) (h3 : meth.code = some c) (h4 : c.code = bytes)
    (h5 : (c.maxLocals == mx && c.exceptionTable.isEmpty && decide (c.maxStack ≤ mostOperands) && decide (meth.sig.returnType = rt) && !meth.locks && decide (parseMethodDescriptor y.desc = some meth.sig)) = true) : (Jvm.Cond.code y bytes mx rt).before a s = true := by
  simp only [Bool.and_eq_true, beq_iff_eq, Bool.not_eq_true', decide_eq_true_eq] at h5
  obtain ⟨⟨⟨⟨⟨g1, g2⟩, g3⟩, g4⟩, g5⟩, g6⟩ := h5
  simp [Cond.before, Cond.holds, Cond.value, h1, h2, h3, h4, g1, g2, g3, g4, g5, g6]
def isCode : Jvm.Cond → Bool
  | .code _ _ _ _ => true
  | _ => false
theorem all_split {L : List Jvm.Cond} {P : Jvm.Cond → Bool} (h1 : L.all (fun c => isCode c || P c) = true) (h2 : ∀ c ∈ L.filter isCode, P c = true) : L.all P = true := by
  refine List.all_eq_true.mpr fun c hc => ?_
  have h := List.all_eq_true.mp h1 c hc
  rcases Bool.eq_false_or_eq_true (isCode c) with hi | hi
  · exact h2 c (List.mem_filter.mpr ⟨hc, hi⟩)
  · simpa [hi] using h
set_option maxRecDepth 65536 in
theorem w_c0 : (Jvm.Cond.code x code maxLocals ret).before args0 about1 = true := code_word (m := ⟨1, 1⟩) (meth := k1m1) (c := k1c1) (by decide +kernel) rfl rfl rfl (by decide +kernel)
set_option maxRecDepth 65536 in
theorem w_c1 : (Jvm.Cond.code ({ cls := "java/lang/Math", name := "min", desc := "(II)I" } : Jvm.MethodName) jdk_29_method_69_code (2 : Nat) (Option.some Jvm.ClassFile.FieldType.int)).before args0 about1 = true := code_word (m := ⟨2, 1⟩) (meth := k2m1) (c := k2c1) (by decide +kernel) rfl rfl rfl (by decide +kernel)
set_option maxRecDepth 65536 in
theorem w_c2 : (Jvm.Cond.code ({ cls := "trimwire/catalog/Names", name := "isTextCharacter", desc := "(I)Z" } : Jvm.MethodName) prog_5_method_3_code (3 : Nat) (Option.some Jvm.ClassFile.FieldType.boolean)).before args0 about1 = true := code_word (m := ⟨3, 1⟩) (meth := k3m1) (c := k3c1) (by decide +kernel) rfl rfl rfl (by decide +kernel)
set_option maxRecDepth 65536 in
theorem w_c3 : (Jvm.Cond.code ({ cls := "trimwire/catalog/NamesIsTextCharacterPinLaw", name := "expected", desc := "(I)Z" } : Jvm.MethodName) method_3_code (2 : Nat) (Option.some Jvm.ClassFile.FieldType.boolean)).before args0 about1 = true := code_word (m := ⟨1, 2⟩) (meth := k1m2) (c := k1c2) (by decide +kernel) rfl rfl rfl (by decide +kernel)
def codes1 : List Jvm.Cond := [Jvm.Cond.code x code maxLocals ret, Jvm.Cond.code ({ cls := "java/lang/Math", name := "min", desc := "(II)I" } : Jvm.MethodName) jdk_29_method_69_code (2 : Nat) (Option.some Jvm.ClassFile.FieldType.int), Jvm.Cond.code ({ cls := "trimwire/catalog/Names", name := "isTextCharacter", desc := "(I)Z" } : Jvm.MethodName) prog_5_method_3_code (3 : Nat) (Option.some Jvm.ClassFile.FieldType.boolean), Jvm.Cond.code ({ cls := "trimwire/catalog/NamesIsTextCharacterPinLaw", name := "expected", desc := "(I)Z" } : Jvm.MethodName) method_3_code (2 : Nat) (Option.some Jvm.ClassFile.FieldType.boolean)]
set_option maxRecDepth 65536 in
theorem codes_eq : words1.filter isCode = codes1 := rfl
theorem w_codes : ∀ c ∈ words1.filter isCode, c.before args0 about1 = true := by
  rw [codes_eq]
  intro c hc
  simp only [codes1, List.mem_cons, List.not_mem_nil, or_false] at hc
  rcases hc with rfl | rfl | rfl | rfl
  · exact w_c0
  · exact w_c1
  · exact w_c2
  · exact w_c3
set_option maxRecDepth 65536 in
theorem w_t1 : (words1.take 24).all (fun c => isCode c || c.before args0 about1) = true := by decide +kernel
set_option maxRecDepth 65536 in
theorem w_t2 : (words1.drop 24).all (fun c => isCode c || c.before args0 about1) = true := by decide +kernel
theorem w_tables : (allAtoms (Jvm.Cond.code x code maxLocals ret :: tables_1)).before args0 about1 = true := by
  rw [allAtoms_all]
  show words1.all (fun c => c.before args0 about1) = true
  refine all_split ?_ w_codes
  rw [← List.take_append_drop 24 words1, List.all_append, w_t1, w_t2]
  rfl
set_option maxRecDepth 65536 in
theorem w_case : (Jvm.Cond.and given_1 narrow_1).before args0 about1 = true := by decide +kernel
theorem w_applies : (headSpec (Jvm.Cond.code x code maxLocals ret :: tables_1) room_1).applies x e0.platform about1 = true :=
  (Spec.applies_iff w_frames).mpr ⟨w_running, w_runnable, w_alone, w_named, w_hears, w_ripe, w_room, w_tables⟩
theorem atStart : AtStart classFile x code maxLocals ret World_1 tables_1 room_1 Calls_1 rest_1 Pre_1 launch0 p0 e0 about1 theMethod args0 below0 :=
  ⟨lists_1, trivial, launch0.admits_env _ _ _, launch0.least_env, fairChoices_fair.cas, fairChoices_fair.clock, w_frames, w_args, w_heap, w_applies, trivial, trivial, w_case⟩
end start1
theorem witness_1 : WitnessClaimed_1 := ⟨start1.p0, start1.e0, start1.about1, start1.theMethod, start1.args0, start1.below0, start1.atStart⟩
end Jvm.Pilot.@@N@@
