import JvmDerived
import JvmDerived.Pilot.@@N@@Statement
import JvmDerived.Pilot.@@N@@Code
set_option linter.unusedVariables false
set_option linter.unusedSimpArgs false
namespace Jvm.OwnKit
open Sem ClassFile Op Lib Jvm.Stand Jvm.Free Jvm.LawKit Jvm.RoadKit
theorem irem_mod (x y : Int32) : x - x / y * y = x % y := by
  have hm : (x % y).toInt = x.toInt - x.toInt.tdiv y.toInt * y.toInt := by
    rw [Int32.toInt_mod, Int.tmod_def, Int.mul_comm]
  have hb := Int32.toInt_lt (x % y)
  have hl := Int32.le_toInt (x % y)
  have e : (x - x / y * y).toInt = (x % y).toInt.bmod (2 ^ 32) := by
    rw [hm, Int32.toInt_sub, Int32.toInt_mul, Int32.toInt_div, Int.sub_bmod_bmod, Int.sub_eq_add_neg, Int.sub_eq_add_neg]
    rw [← Int.add_bmod_bmod, ← Int.add_bmod_bmod (y := -(x.toInt.tdiv y.toInt * y.toInt))]
    congr 2
    rw [← Int.neg_mul, ← Int.neg_mul]
    rw [← Int.bmod_mul_bmod, Int.bmod_neg_bmod, Int.bmod_mul_bmod]
  apply Int32.toInt_inj.mp
  rw [e]
  exact Int.bmod_eq_of_le_mul_two (by omega) (by omega)
/-- what a body's end says -/
def Done (s : State) (below : List Frame) (Q : Option Value → Heap → List Loc → Prop) (C S : Nat) (t : State) (o : Outcome) : Prop :=
  t.status = .running ∧ Ended t below o ∧ ∃ v L, o = .returned v ∧ Q v t.heap L ∧ FrameEnd s o t L C S
/-- from here the run ends as asked -/
def Go (tb : Tables) (e : Env) (below : List Frame) (s : State) (Q : Option Value → Heap → List Loc → Prop) (C S : Nat) (A : State) : Prop :=
  ∃ t o, Steps tb e below A t ∧ Done s below Q C S t o
theorem Go.of {tb : Tables} {e : Env} {below : List Frame} {s : State} {Q : Option Value → Heap → List Loc → Prop} {C S : Nat} {A B : State}
    (g : ∀ t, Steps tb e below B t → Steps tb e below A t) (h : Go tb e below s Q C S B) : Go tb e below s Q C S A := by
  obtain ⟨t, o, h1, h2⟩ := h
  exact ⟨t, o, g t h1, h2⟩
theorem Go.join {tb : Tables} {e : Env} {below : List Frame} {s : State} {Q : Option Value → Heap → List Loc → Prop} {C S : Nat} {A : State} {α : Type} {P : α → Prop} {F : α → State}
    (h1 : ∀ x, P x → Go tb e below s Q C S (F x)) (h2 : (∀ x, P x → Go tb e below s Q C S (F x)) → Go tb e below s Q C S A) : Go tb e below s Q C S A := h2 h1
theorem Go.loop {tb : Tables} {e : Env} {below : List Frame} {s : State} {Q : Option Value → Heap → List Loc → Prop} {C S : Nat} {α : Type} {P : Nat → α → Prop} {F : α → State}
    (h : ∀ k x, P k x → (∀ j y, j < k → P j y → Go tb e below s Q C S (F y)) → Go tb e below s Q C S (F x)) : ∀ k x, P k x → Go tb e below s Q C S (F x) := by
  intro k
  induction k using Nat.strongRecOn with
  | ind k ih => exact fun x hp => h k x hp fun j y hj hy => ih j hj y hy
section Ret
variable {p : Program} {l : Launch} {e : Env} {R : Room} {s : State} {m : MethodId} {args : Array Value} {below : List Frame} {meth : Method} {c : Code} {T : State} {locs : List Loc} {cells slots : Nat} {Q : Option Value → Heap → List Loc → Prop} {C S : Nat}
theorem Go.retV (X : Stand p l e R s m args below meth c T locs cells slots) (hx : p.tables.exec = Jvm.exec) (hlk : meth.locks = false) {pc : Nat} {Ls : Array Slot} {st : List Value} (hret : meth.sig.returnType = none)
    (hd : decode c.code pc = .ok (.return_, 1)) (hs : st = []) (hc : cells ≤ C) (hn : slots ≤ S) (hq : Q none T.heap locs) : Go p.tables e below s Q C S (T.setTop (mkF m pc Ls st)) := by
  subst hs
  obtain ⟨fs, hr, hrun, hended, hW, hsame⟩ := X.leave (v := none) (fun _ => rfl)
  exact ⟨_, _, X.returnOut hx hret hd hr, hrun, hended, _, _, rfl, hq, ⟨_, rfl⟩, hW, hsame.mono hc hn⟩
theorem Go.retW (X : Stand p l e R s m args below meth c T locs cells slots) (hx : p.tables.exec = Jvm.exec) (hlk : meth.locks = false) {pc : Nat} {Ls : Array Slot} {w : Value} {t : FieldType} {i : Instr} {rest : List Value}
    (hret : meth.sig.returnType = some t) (hn : narrow t w = w)
    (hi : (i = .ireturn ∧ (t = .int ∨ t = .boolean ∨ t = .byte ∨ t = .char ∨ t = .short) ∧ ∃ z, w = .int z) ∨ (i = .lreturn ∧ t = .long ∧ ∃ z, w = .long z) ∨ (i = .dreturn ∧ t = .double ∧ ∃ z, w = .double z) ∨ (i = .freturn ∧ t = .float ∧ ∃ z, w = .float z) ∨ (i = .areturn ∧ t.isReference = true ∧ w.isRef = true))
    (hd : decode c.code pc = .ok (i, 1)) (hc : cells ≤ C) (hsl : slots ≤ S) (hq : Q (some w) T.heap locs) : Go p.tables e below s Q C S (T.setTop (mkF m pc Ls (w :: rest))) := by
  obtain ⟨fs, hr, hrun, hended, hW, hsame⟩ := X.leave (v := some w) (fun h => by rw [hret] at h; cases h)
  exact ⟨_, _, retOut X hx hret hn hi hd hr, hrun, hended, _, _, rfl, hq, ⟨_, rfl⟩, hW, hsame.mono hc hsl⟩
theorem Go.retI (X : Stand p l e R s m args below meth c T locs cells slots) (hx : p.tables.exec = Jvm.exec) (hlk : meth.locks = false) {pc : Nat} {Ls : Array Slot} {z : Int32} {rest : List Value}
    (hret : meth.sig.returnType = some .int) (hd : decode c.code pc = .ok (.ireturn, 1)) (hc : cells ≤ C) (hsl : slots ≤ S) (hq : Q (some (.int z)) T.heap locs) : Go p.tables e below s Q C S (T.setTop (mkF m pc Ls (.int z :: rest))) :=
  Go.retW X hx hlk hret rfl (Or.inl ⟨rfl, Or.inl rfl, _, rfl⟩) hd hc hsl hq
theorem Go.retZ (X : Stand p l e R s m args below meth c T locs cells slots) (hx : p.tables.exec = Jvm.exec) (hlk : meth.locks = false) {pc : Nat} {Ls : Array Slot} {z : Int32} {rest : List Value} {t : FieldType}
    (hret : meth.sig.returnType = some t) (ht : t = .boolean ∨ t = .byte ∨ t = .char ∨ t = .short) (hd : decode c.code pc = .ok (.ireturn, 1)) (hc : cells ≤ C) (hsl : slots ≤ S) (hq : Q (some (.int (nar t z))) T.heap locs) : Go p.tables e below s Q C S (T.setTop (mkF m pc Ls (.int z :: rest))) := by
  obtain ⟨fs, hr, hrun, hended, hW, hsame⟩ := X.leave (v := some (.int (nar t z))) (fun h => by rw [hret] at h; cases h)
  exact ⟨_, _, retN X hx hret ht hd hr, hrun, hended, _, _, rfl, hq, ⟨_, rfl⟩, hW, hsame.mono hc hsl⟩
theorem Go.retL (X : Stand p l e R s m args below meth c T locs cells slots) (hx : p.tables.exec = Jvm.exec) (hlk : meth.locks = false) {pc : Nat} {Ls : Array Slot} {z : Int64} {rest : List Value}
    (hret : meth.sig.returnType = some .long) (hd : decode c.code pc = .ok (.lreturn, 1)) (hc : cells ≤ C) (hsl : slots ≤ S) (hq : Q (some (.long z)) T.heap locs) : Go p.tables e below s Q C S (T.setTop (mkF m pc Ls (.long z :: rest))) :=
  Go.retW X hx hlk hret rfl (Or.inr (Or.inl ⟨rfl, rfl, _, rfl⟩)) hd hc hsl hq
theorem Go.retA (X : Stand p l e R s m args below meth c T locs cells slots) (hx : p.tables.exec = Jvm.exec) (hlk : meth.locks = false) {pc : Nat} {Ls : Array Slot} {w : Value} {rest : List Value} {t : FieldType}
    (hret : meth.sig.returnType = some t) (ht : t.isReference = true) (hw : w.isRef = true) (hd : decode c.code pc = .ok (.areturn, 1)) (hc : cells ≤ C) (hsl : slots ≤ S) (hq : Q (some w) T.heap locs) : Go p.tables e below s Q C S (T.setTop (mkF m pc Ls (w :: rest))) :=
  Go.retW X hx hlk hret (by cases t <;> first | rfl | (simp [FieldType.isReference] at ht)) (Or.inr (Or.inr (Or.inr (Or.inr ⟨rfl, ht, hw⟩)))) hd hc hsl hq
end Ret
/-- the contract of a body, by its walk -/
theorem meet {l : Launch} {Z : State} {y : MethodName} {bytes : ByteArray} {maxL : Nat} {ret : Option FieldType} {ws : List Cond} {rm : Room} {as : Array Value} {Ls : Array Slot} {h0 : Heap} {Q : Option Value → Heap → List Loc → Prop}
    (hpl : plainFor y = true) (ef : ∀ m, entryFrame m as maxL = mkF m 0 Ls [])
    (body : ∀ (p : Program) (e : Env) (s : State) (m : MethodId) (below : List Frame) (meth : Method) (c : Code) (T : State), p.tables.exec = Jvm.exec → c.code = bytes → c.maxLocals = maxL → Z.Warmed39 s.vm → s.vm.findClass y.cls = some m.cls → meth.name = y.name →
      meth.sig.returnType = ret → meth.locks = false → Stand p l e rm s m as below meth c T [] 0 0 → T.heap = h0 → Go p.tables e below s Q rm.cells rm.slots (T.setTop (mkF m 0 Ls []))) :
    MetFree l y (head1 (Cond.code y bytes maxL ret :: ws) rm) (fun a U => a = as ∧ Z.Warmed39 U.vm ∧ U.heap = h0) (fun _ _ _ _ _ => True) (fun _ U o U' => ∃ v L, o = .returned v ∧ Q v U'.heap L ∧ FrameEnd U o U' L rm.cells rm.slots) := by
  refine MetFree.of_bodySF hpl hisR ?_
  intro p e s m args below meth c s₁ Bd hml0 hP hK
  obtain ⟨rfl, hZ, hh⟩ := hP
  obtain ⟨t, o, h1, h2, h3, h4⟩ := body p e s m below meth c s₁ Bd.exec Bd.bytes hml0 hZ (findClass_of_methodNamed Bd.named) (name_of_methodNamed Bd.named Bd.method).1 Bd.returns Bd.notSynchronized (Stand.of_body Bd) (by rw [← hh, Bd.state]; rfl)
  exact ⟨t, o, castTop (ef m) h1, h2, h3, h4⟩
/-- what a callee's contract says -/
abbrev Con (l : Launch) (Z : State) (y : MethodName) (bytes : ByteArray) (maxL : Nat) (ret : Option FieldType) (rm : Room) (as : Array Value) (h0 : Heap) (Q : Option Value → Heap → List Loc → Prop) : Prop :=
  MetFree l y (head1 [Cond.code y bytes maxL ret] rm) (fun a U => a = as ∧ Z.Warmed39 U.vm ∧ U.heap = h0) (fun _ _ _ _ _ => True) (fun _ U o U' => ∃ v L, o = .returned v ∧ Q v U'.heap L ∧ FrameEnd U o U' L rm.cells rm.slots)
section Call
variable {p : Program} {l : Launch} {e : Env} {R : Room} {s : State} {m : MethodId} {args : Array Value} {below : List Frame} {meth : Method} {c : Code} {T : State} {locs : List Loc} {cells slots : Nat} {Q : Option Value → Heap → List Loc → Prop} {C S : Nat} {Z : State} {a0 : Array Value} {h : Heap}
theorem Go.callS (X : Stand p l e R s m args below meth c T locs cells slots) (hx : p.tables.exec = Jvm.exec) (hZ : Z.Warmed39 s.vm) {own : String} {index : Nat} {y : MethodName} {bytes : ByteArray} {maxL : Nat} {ret : Option FieldType} {rm : Room} {Q' : Option Value → Heap → List Loc → Prop}
    (hown : s.vm.findClass own = some m.cls) (w1 : (Cond.methodLink own index y).before a0 Z = true) (w2 : (Cond.static y).before a0 Z = true) (w3 : (Cond.initialized y.cls).before a0 Z = true)
    (w4 : (Cond.code y bytes maxL ret).before a0 Z = true) (hy : y.cls ≠ "java/lang/invoke/MethodHandle" ∧ y.cls ≠ "java/lang/invoke/VarHandle")
    (eT : T.heap = h) {pc : Nat} {Ls : Array Slot} {argsL rest st : List Value} {W : Nat} {ps : List FieldType} (hM : Con l Z y bytes maxL ret rm argsL.toArray h Q') (hd : decode c.code pc = .ok (.invokestatic index, 3))
    (hsz : Ls.size = c.maxLocals) (hst : st = argsL.reverse ++ rest) (hpd : parseMethodDescriptor y.desc = some ⟨ps, ret⟩) (hlen : argsL.length = ps.length) (hW : (rest.map fun v => v.category).sum = W)
    (hf : rm.frames + 1 ≤ R.frames) (hl : W + (maxL + 11) + rm.locals ≤ R.locals) (hc : cells + rm.cells ≤ R.cells) (hn : slots + rm.slots ≤ R.slots)
    (k : ∀ (v : Option Value) (T' : State) (L' : List Loc), Stand p l e R s m args below meth c T' (locs ++ L') (cells + rm.cells) (slots + rm.slots) → Q' v T'.heap L' → Go p.tables e below s Q C S (T'.setTop (mkF m (pc + 3) Ls (v.toList ++ rest)))) :
    Go p.tables e below s Q C S (T.setTop (mkF m pc Ls st)) := by
  obtain ⟨v, _, ⟨T', L', kc, kn⟩, -, X', ⟨Lc, hQ, l3, y3, z3⟩, st⟩ := Jvm.LawKit.callS X hx hown (mvT hZ w1) (mvT hZ w2) (mvT hZ w3) (mvT hZ w4) hy (backOf (W := W) hM hZ w4 w3 hf hl) (g := mkF m pc Ls st) rfl hsz (argsL := argsL) (rest := rest) (lenOf hpd hlen) hst (by show 2 * 0 + _ ≤ _; rw [hW]; omega) hd (fun _ _ => ⟨rfl, eT, hc, hn⟩)
  dsimp only [Pt.U, Pt.locs, Pt.cells, Pt.slots] at X' l3 y3 z3 st hQ
  subst l3 y3 z3
  exact Go.of st (k v T' Lc X' hQ)
theorem Go.callI (X : Stand p l e R s m args below meth c T locs cells slots) (hx : p.tables.exec = Jvm.exec) (hZ : Z.Warmed39 s.vm) {own : String} {index : Nat} {y : MethodName} {bytes : ByteArray} {maxL : Nat} {rm : Room} {Q' : Option Value → Heap → List Loc → Prop}
    (hown : s.vm.findClass own = some m.cls) (hy1 : y.name = "<init>") (w1 : (Cond.methodLink own index y).before a0 Z = true) (w2 : (Cond.instanceMethod y).before a0 Z = true) (w3 : (Cond.initialized y.cls).before a0 Z = true)
    (w4 : (Cond.code y bytes maxL none).before a0 Z = true) (hy : y.cls ≠ "java/lang/invoke/MethodHandle" ∧ y.cls ≠ "java/lang/invoke/VarHandle")
    (eT : T.heap = h) {pc : Nat} {Ls : Array Slot} {a : Addr} {argsL rest st : List Value} {W : Nat} {ps : List FieldType} (hM : Con l Z y bytes maxL none rm (.ref a :: argsL).toArray h Q') (hd : decode c.code pc = .ok (.invokespecial index, 3))
    (hsz : Ls.size = c.maxLocals) (hst : st = argsL.reverse ++ .ref a :: rest) (hpd : parseMethodDescriptor y.desc = some ⟨ps, none⟩) (hlen : argsL.length = ps.length) (hW : (rest.map fun v => v.category).sum = W)
    (hf : rm.frames + 1 ≤ R.frames) (hl : W + (maxL + 11) + rm.locals ≤ R.locals) (hc : cells + rm.cells ≤ R.cells) (hn : slots + rm.slots ≤ R.slots)
    (k : ∀ (v : Option Value) (T' : State) (L' : List Loc), Stand p l e R s m args below meth c T' (locs ++ L') (cells + rm.cells) (slots + rm.slots) → Q' v T'.heap L' → Go p.tables e below s Q C S (T'.setTop (mkF m (pc + 3) Ls (v.toList ++ rest)))) :
    Go p.tables e below s Q C S (T.setTop (mkF m pc Ls st)) := by
  obtain ⟨v, _, ⟨T', L', kc, kn⟩, -, X', ⟨Lc, hQ, l3, y3, z3⟩, st⟩ := X.specialBack hx hy1 hown (mvT hZ w1) (mvT hZ w2) (mvT hZ w4) hy (backOf (W := W) hM hZ w4 w3 hf hl) (g := mkF m pc Ls st) rfl hsz (Steps.refl _) (a := a) (argsL := argsL) (rest := rest) (lenOf hpd hlen) hst (by show 2 * 0 + _ ≤ _; rw [hW]; omega) hd (fun _ _ => ⟨rfl, eT, hc, hn⟩)
  dsimp only [Pt.U, Pt.locs, Pt.cells, Pt.slots] at X' l3 y3 z3 st hQ
  subst l3 y3 z3
  exact Go.of (fun _ q => st.trans q) (k v T' Lc X' hQ)
theorem Go.callV (X : Stand p l e R s m args below meth c T locs cells slots) (hx : p.tables.exec = Jvm.exec) (hZ : Z.Warmed39 s.vm) {own K : String} {index : Nat} {y z : MethodName} {bytes : ByteArray} {maxL : Nat} {ret : Option FieldType} {rm : Room} {Q' : Option Value → Heap → List Loc → Prop}
    (hown : s.vm.findClass own = some m.cls) (w1 : (Cond.methodLink own index y).before a0 Z = true) (w2 : (Cond.declares y).before a0 Z = true) (nf : NotFace s y) (w5 : (Cond.selects K y z).before a0 Z = true) (w6 : (Cond.instanceMethod z).before a0 Z = true) (w3 : (Cond.initialized z.cls).before a0 Z = true)
    (w4 : (Cond.code z bytes maxL ret).before a0 Z = true) (hy : y.cls ≠ "java/lang/invoke/MethodHandle" ∧ y.cls ≠ "java/lang/invoke/VarHandle")
    (eT : T.heap = h) {pc : Nat} {Ls : Array Slot} {a : Addr} {argsL rest st : List Value} {W : Nat} {ps : List FieldType} {rt : Option FieldType} (E : Exa Z h a K) (hM : Con l Z z bytes maxL ret rm (.ref a :: argsL).toArray h Q') (hd : decode c.code pc = .ok (.invokevirtual index, 3))
    (hsz : Ls.size = c.maxLocals) (hst : st = argsL.reverse ++ .ref a :: rest) (hpd : parseMethodDescriptor y.desc = some ⟨ps, rt⟩) (hlen : argsL.length = ps.length) (hW : (rest.map fun v => v.category).sum = W)
    (hf : rm.frames + 1 ≤ R.frames) (hl : W + (maxL + 11) + rm.locals ≤ R.locals) (hc : cells + rm.cells ≤ R.cells) (hn : slots + rm.slots ≤ R.slots)
    (k : ∀ (v : Option Value) (T' : State) (L' : List Loc), Stand p l e R s m args below meth c T' (locs ++ L') (cells + rm.cells) (slots + rm.slots) → Q' v T'.heap L' → Go p.tables e below s Q C S (T'.setTop (mkF m (pc + 3) Ls (v.toList ++ rest)))) :
    Go p.tables e below s Q C S (T.setTop (mkF m pc Ls st)) := by
  obtain ⟨cq, kq, qa, qb, qc⟩ := isOf hZ eT E
  obtain ⟨v, _, ⟨T', L', kc, kn⟩, -, X', ⟨Lc, hQ, l3, y3, z3⟩, st⟩ := X.virtualBack hx (y := y) (z := z) hown (mvT hZ w1) (mvT hZ w2) nf (mvT hZ w5) (mvT hZ w6) hy (backOf (W := W) hM hZ w4 w3 hf hl) qa qc (g := mkF m pc Ls st) rfl hsz (Steps.refl _) (argsL := argsL) (rest := rest) (lenOf hpd hlen) hst (by show 2 * 0 + _ ≤ _; rw [hW]; omega) hd (fun _ _ => ⟨rfl, eT, hc, hn⟩)
  dsimp only [Pt.U, Pt.locs, Pt.cells, Pt.slots] at X' l3 y3 z3 st hQ
  subst l3 y3 z3
  exact Go.of (fun _ q => st.trans q) (k v T' Lc X' hQ)
/-- a private method by invokevirtual -/
theorem Go.callP (X : Stand p l e R s m args below meth c T locs cells slots) (hx : p.tables.exec = Jvm.exec) (hZ : Z.Warmed39 s.vm) {own K : String} {index : Nat} {y : MethodName} {bytes : ByteArray} {maxL : Nat} {ret : Option FieldType} {rm : Room} {Q' : Option Value → Heap → List Loc → Prop}
    (hown : s.vm.findClass own = some m.cls) (w1 : (Cond.methodLink own index y).before a0 Z = true) (w6 : (Cond.instanceMethod y).before a0 Z = true) {kk : Nat} (w5 : (Cond.instantiable y.cls kk).before a0 Z = true) (w7 : (Cond.privateMethod y).before a0 Z = true) (w3 : (Cond.initialized y.cls).before a0 Z = true)
    (w4 : (Cond.code y bytes maxL ret).before a0 Z = true) (hy : y.cls ≠ "java/lang/invoke/MethodHandle" ∧ y.cls ≠ "java/lang/invoke/VarHandle")
    (eT : T.heap = h) {pc : Nat} {Ls : Array Slot} {a : Addr} {argsL rest st : List Value} {W : Nat} {ps : List FieldType} {rt : Option FieldType} (E : Exa Z h a K) (hM : Con l Z y bytes maxL ret rm (.ref a :: argsL).toArray h Q') (hd : decode c.code pc = .ok (.invokevirtual index, 3))
    (hsz : Ls.size = c.maxLocals) (hst : st = argsL.reverse ++ .ref a :: rest) (hpd : parseMethodDescriptor y.desc = some ⟨ps, rt⟩) (hlen : argsL.length = ps.length) (hW : (rest.map fun v => v.category).sum = W)
    (hf : rm.frames + 1 ≤ R.frames) (hl : W + (maxL + 11) + rm.locals ≤ R.locals) (hc : cells + rm.cells ≤ R.cells) (hn : slots + rm.slots ≤ R.slots)
    (k : ∀ (v : Option Value) (T' : State) (L' : List Loc), Stand p l e R s m args below meth c T' (locs ++ L') (cells + rm.cells) (slots + rm.slots) → Q' v T'.heap L' → Go p.tables e below s Q C S (T'.setTop (mkF m (pc + 3) Ls (v.toList ++ rest)))) :
    Go p.tables e below s Q C S (T.setTop (mkF m pc Ls st)) := by
  obtain ⟨cq, q1, q2⟩ := E.cell
  obtain ⟨c2, k2, i1, i2, -, i4, -⟩ := Cond.instantiable_spec (mvT (args := args) hZ w5)
  have hpv : s.PrivateAt y := Cond.privateMethod_at (mvP hZ w7 (args := #[]))
  have hsel : (Cond.selects y.cls y y).before args s = true := selects_self_of_private i1 i2 (by simpa using (Bool.or_eq_false_iff.mp i4).1) hpv (mvT hZ w6) hy
  obtain ⟨v, _, ⟨T', L', kc, kn⟩, -, X', ⟨Lc, hQ, l3, y3, z3⟩, st⟩ := X.privateBack hx (y := y) hown (mvT hZ w1) (mvT hZ w6) hsel hpv (mvT hZ w4) hy (backOf (W := W) hM hZ w4 w3 hf hl) (g := mkF m pc Ls st) rfl hsz (Steps.refl _) (a := a) (by rw [eT]; exact q1) q2 (argsL := argsL) (rest := rest) (lenOf hpd hlen) hst (by show 2 * 0 + _ ≤ _; rw [hW]; omega) hd (fun _ _ => ⟨rfl, eT, hc, hn⟩)
  dsimp only [Pt.U, Pt.locs, Pt.cells, Pt.slots] at X' l3 y3 z3 st hQ
  subst l3 y3 z3
  exact Go.of (fun _ q => st.trans q) (k v T' Lc X' hQ)
end Call
/-- an array of n places, place i holding f i -/
def ArF (Z : State) (h : Heap) (a : Addr) (ty : FieldType) (n : Nat) (f : Nat → Value) : Prop :=
  ∃ cl : Cell, Arr Z h a cl ty ∧ cl.slots.size = n ∧ n < 2 ^ 31 ∧ (∀ i, i < n → cl.slots[i]? = some (f i)) ∧ ∀ i, i < n → fits ty (f i) = true
def upV (f : Nat → Value) (j : Nat) (v : Value) (i : Nat) : Value := if i = j then v else f i
def upI (f : Nat → Int32) (j : Nat) (v : Int32) (i : Nat) : Int32 := if i = j then v else f i
def upJ (f : Nat → Int64) (j : Nat) (v : Int64) (i : Nat) : Int64 := if i = j then v else f i
def upD (f : Nat → UInt64) (j : Nat) (v : UInt64) (i : Nat) : UInt64 := if i = j then v else f i
section ArF
variable {Z : State} {h h' : Heap} {a b : Addr} {ty : FieldType} {n : Nat} {f : Nat → Value} {sl : Nat} {v : Value} {ws : List Addr}
theorem ArF.lt (F : ArF Z h a ty n f) : a < h.size := by obtain ⟨c, A, -⟩ := F; exact A.lt
theorem ArF.ext (F : ArF Z h a ty n f) (E : Ext h h') : ArF Z h' a ty n f := by obtain ⟨c, A, r⟩ := F; exact ⟨c, A.ext E, r⟩
theorem ArF.other (F : ArF Z h b ty n f) (W : Wr h h' a sl v) (q : b ≠ a) : ArF Z h' b ty n f := by obtain ⟨c, A, r⟩ := F; exact ⟨c, A.other W q, r⟩
theorem ArF.keep (F : ArF Z h a ty n f) (K : Keep h h' ws) (q : a ∉ ws) : ArF Z h' a ty n f := by obtain ⟨c, A, r⟩ := F; exact ⟨c, ⟨K.2.1 a c A.1 q, A.2⟩, r⟩
theorem ArF.len (F : ArF Z h a ty n f) : n < 2 ^ 31 := by obtain ⟨c, A, r1, r2, -⟩ := F; exact r2
theorem ArF.fit (F : ArF Z h a ty n f) {i : Nat} (hi : i < n) : fits ty (f i) = true := by obtain ⟨c, A, r1, r2, r3, r4⟩ := F; exact r4 i hi
theorem ArF.congr {g : Nat → Value} (F : ArF Z h a ty n f) (q : ∀ i, i < n → g i = f i) : ArF Z h a ty n g := by
  obtain ⟨c, A, r1, r2, r3, r4⟩ := F
  exact ⟨c, A, r1, r2, fun i hi => by rw [q i hi]; exact r3 i hi, fun i hi => by rw [q i hi]; exact r4 i hi⟩
theorem ArF.new {k : ClassId} {z : Int32} (A : Arr Z h a (newA k ty z) ty) (hn : ¬ z < 0) (hz : z.toNatClampNeg = n) : ArF Z h a ty n (fun _ => defaultValue ty) := by
  subst hz
  refine ⟨_, A, sz_new _ _ _, (back32 hn).2, fun i hi => ?_, fun i hi => by cases ty <;> rfl⟩
  simp [newA, hi]
theorem ArF.set {x : Nat} (F : ArF Z h a ty n f) (hv : fits ty v = true) (W : Wr h h' a x v) : ArF Z h' a ty n (upV f x v) := by
  obtain ⟨c, A, r1, r2, r3, r4⟩ := F
  refine ⟨_, A.same W, by simp [Cell.setSlot, r1], r2, fun i hi => ?_, fun i hi => ?_⟩
  · by_cases e : i = x
    · subst e; simp [upV, Cell.setSlot, r1, hi]
    · simp only [upV, e, if_false, Cell.setSlot]
      rw [Array.getElem?_setIfInBounds_ne (Ne.symm e)]; exact r3 i hi
  · by_cases e : i = x
    · simp [upV, e, hv]
    · simp only [upV, e, if_false]; exact r4 i hi
theorem ArF.arv (F : ArF Z h a ty n f) (d : Value) : ∃ k, Arv Z h a k ty n.toInt32 ((List.range n).map f) d := by
  obtain ⟨c, A, r1, r2, r3, r4⟩ := F
  have hz : (n.toInt32).toInt = n := len_toInt r2
  have hz0 : (0 : Int32).toInt = 0 := rfl
  have hg : ∀ i, i < n → ((List.range n).map f).getD i d = f i := fun i hi => by simp [List.getD, hi]
  refine ⟨c.cls, c, A, rfl, ?_, by rw [Int32.lt_iff_toInt_lt]; omega, fun i hi => ?_, fun i hi => ?_⟩
  · rw [r1, Int32.toNatClampNeg]; omega
  · rw [r1] at hi; rw [hg i hi]; exact r3 i hi
  · rw [r1] at hi; rw [hg i hi]; exact r4 i hi
theorem arF_of_arv {k : ClassId} {z : Int32} {vs : List Value} {d : Value} (F : Arv Z h a k ty z vs d) : ArF Z h a ty z.toNatClampNeg (fun i => vs.getD i d) := by
  obtain ⟨c, A, -, r2, r3, r4, r5⟩ := F
  exact ⟨c, A, r2, (back32 r3).2, fun i hi => r4 i (by rw [r2]; exact hi), fun i hi => r5 i (by rw [r2]; exact hi)⟩
/-- n places of f from sp on, laid over f' from dp on -/
def cpF (f f' : Nat → Value) (sp dp nn : Nat) (i : Nat) : Value := if dp ≤ i ∧ i < dp + nn then f (sp + (i - dp)) else f' i
def cpT {α : Type} (f f' : Nat → α) (sp dp nn : Nat) (i : Nat) : α := if dp ≤ i ∧ i < dp + nn then f (sp + (i - dp)) else f' i
theorem ArF.cpI {g g' : Nat → Int32} {x y z : Nat} (F : ArF Z h a ty n (cpF (fun i => .int (g i)) (fun i => .int (g' i)) x y z)) : ArF Z h a ty n (fun i => .int (cpT g g' x y z i)) := F.congr fun i _ => by simp only [cpF, cpT]; split <;> rfl
theorem ArF.cpJ {g g' : Nat → Int64} {x y z : Nat} (F : ArF Z h a ty n (cpF (fun i => .long (g i)) (fun i => .long (g' i)) x y z)) : ArF Z h a ty n (fun i => .long (cpT g g' x y z i)) := F.congr fun i _ => by simp only [cpF, cpT]; split <;> rfl
theorem ArF.cpD {g g' : Nat → UInt64} {x y z : Nat} (F : ArF Z h a ty n (cpF (fun i => .double (g i)) (fun i => .double (g' i)) x y z)) : ArF Z h a ty n (fun i => .double (cpT g g' x y z i)) := F.congr fun i _ => by simp only [cpF, cpT]; split <;> rfl
theorem nat_idx {j : Int32} {k : Nat} (hj : j.toInt = (k : Int)) : j.toNatClampNeg = k := by simp only [Int32.toNatClampNeg]; omega
theorem in_idx {j : Int32} {k : Nat} {c : Cell} (hj : j.toInt = (k : Int)) (hk : k < n) (e : c.slots.size = n) : ¬ (j < 0 ∨ c.slots.size ≤ j.toNatClampNeg) := by
  rw [nat_idx hj, e, Int32.lt_iff_toInt_lt]
  have : (0 : Int32).toInt = 0 := rfl
  omega
end ArF
section ArrSteps
variable {p : Program} {l : Launch} {e : Env} {R : Room} {s : State} {m : MethodId} {args : Array Value} {below : List Frame} {meth : Method} {c : Code} {T : State} {locs : List Loc} {cells slots : Nat} {Q : Option Value → Heap → List Loc → Prop} {C S : Nat} {Z : State} {a0 : Array Value} {h : Heap} {a : Addr} {n : Nat} {j : Int32} {pc : Nat} {Ls : Array Slot} {rest : List Value}
theorem Go.alen (X : Stand p l e R s m args below meth c T locs cells slots) (hx : p.tables.exec = Jvm.exec) (hZ : Z.Warmed39 s.vm) (eT : T.heap = h) {ty : FieldType} {f : Nat → Value} (F : ArF Z h a ty n f) (hd : decode c.code pc = .ok (.arraylength, 1))
    (kk : Go p.tables e below s Q C S (T.setTop (mkF m (pc + 1) Ls (.int n.toInt32 :: rest)))) : Go p.tables e below s Q C S (T.setTop (mkF m pc Ls (.ref a :: rest))) := by
  obtain ⟨cl, A, r1, r2, -⟩ := F
  subst r1
  exact Go.of (fun t q => X.arraylength hx (by rw [eT]; exact A.1) (State.isArrayOf_alike hZ.alike A.2.1) (g := mkF m pc Ls (.ref a :: rest)) rfl rfl hd t q) kk
theorem Go.iaload (X : Stand p l e R s m args below meth c T locs cells slots) (hx : p.tables.exec = Jvm.exec) (hZ : Z.Warmed39 s.vm) (eT : T.heap = h) {f : Nat → Int32} (F : ArF Z h a .int n (fun i => .int (f i))) {k : Nat} (hj : j.toInt = (k : Int)) (hk : k < n) (hd : decode c.code pc = .ok (.iaload, 1))
    (kk : Go p.tables e below s Q C S (T.setTop (mkF m (pc + 1) Ls (.int (f k) :: rest)))) : Go p.tables e below s Q C S (T.setTop (mkF m pc Ls (.int j :: .ref a :: rest))) := by
  obtain ⟨cl, A, r1, r2, r3, -⟩ := F
  exact Go.of (fun t q => X.iaload hx (j := j) (v := .int (f k)) (by rw [eT]; exact A.1) (State.isArrayOf_alike hZ.alike A.2.1) A.2.2 (in_idx hj hk r1) (by rw [nat_idx hj, r3 _ hk]) (g := mkF m pc Ls (.int j :: .ref a :: rest)) rfl rfl hd t q) kk
theorem Go.laload (X : Stand p l e R s m args below meth c T locs cells slots) (hx : p.tables.exec = Jvm.exec) (hZ : Z.Warmed39 s.vm) (eT : T.heap = h) {f : Nat → Int64} (F : ArF Z h a .long n (fun i => .long (f i))) {k : Nat} (hj : j.toInt = (k : Int)) (hk : k < n) (hd : decode c.code pc = .ok (.laload, 1))
    (kk : Go p.tables e below s Q C S (T.setTop (mkF m (pc + 1) Ls (.long (f k) :: rest)))) : Go p.tables e below s Q C S (T.setTop (mkF m pc Ls (.int j :: .ref a :: rest))) := by
  obtain ⟨cl, A, r1, r2, r3, -⟩ := F
  exact Go.of (fun t q => X.laload hx (j := j) (v := .long (f k)) (by rw [eT]; exact A.1) (State.isArrayOf_alike hZ.alike A.2.1) A.2.2 (in_idx hj hk r1) (by rw [nat_idx hj, r3 _ hk]) (g := mkF m pc Ls (.int j :: .ref a :: rest)) rfl rfl hd t q) kk
theorem Go.baload (X : Stand p l e R s m args below meth c T locs cells slots) (hx : p.tables.exec = Jvm.exec) (hZ : Z.Warmed39 s.vm) (eT : T.heap = h) {f : Nat → Int32} (F : ArF Z h a .byte n (fun i => .int (f i))) {k : Nat} (hj : j.toInt = (k : Int)) (hk : k < n) (hd : decode c.code pc = .ok (.baload, 1))
    (kk : Go p.tables e below s Q C S (T.setTop (mkF m (pc + 1) Ls (.int (f k) :: rest)))) : Go p.tables e below s Q C S (T.setTop (mkF m pc Ls (.int j :: .ref a :: rest))) := by
  obtain ⟨cl, A, r1, r2, r3, -⟩ := F
  exact Go.of (fun t q => X.baloadBytes hx (j := j) (v := .int (f k)) (by rw [eT]; exact A.1) (State.isArrayOf_alike hZ.alike A.2.1) A.2.2 (in_idx hj hk r1) (by rw [nat_idx hj, r3 _ hk]) (g := mkF m pc Ls (.int j :: .ref a :: rest)) rfl rfl hd t q) kk
theorem Go.daload (X : Stand p l e R s m args below meth c T locs cells slots) (hx : p.tables.exec = Jvm.exec) (hZ : Z.Warmed39 s.vm) (eT : T.heap = h) {f : Nat → UInt64} (F : ArF Z h a .double n (fun i => .double (f i))) {k : Nat} (hj : j.toInt = (k : Int)) (hk : k < n) (hd : decode c.code pc = .ok (.daload, 1))
    (kk : Go p.tables e below s Q C S (T.setTop (mkF m (pc + 1) Ls (.double (f k) :: rest)))) : Go p.tables e below s Q C S (T.setTop (mkF m pc Ls (.int j :: .ref a :: rest))) := by
  obtain ⟨cl, A, r1, r2, r3, -⟩ := F
  exact Go.of (fun t q => X.daload hx (j := j) (v := .double (f k)) (by rw [eT]; exact A.1) (State.isArrayOf_alike hZ.alike A.2.1) A.2.2 (in_idx hj hk r1) (by rw [nat_idx hj, r3 _ hk]) (g := mkF m pc Ls (.int j :: .ref a :: rest)) rfl rfl hd t q) kk
theorem Go.aaload (X : Stand p l e R s m args below meth c T locs cells slots) (hx : p.tables.exec = Jvm.exec) (hZ : Z.Warmed39 s.vm) (eT : T.heap = h) {ty : FieldType} {f : Nat → Value} (F : ArF Z h a ty n f) (hty : ty.isReference = true) {k : Nat} (hj : j.toInt = (k : Int)) (hk : k < n) {v : Value} (hv : f k = v) (hd : decode c.code pc = .ok (.aaload, 1))
    (kk : Go p.tables e below s Q C S (T.setTop (mkF m (pc + 1) Ls (v :: rest)))) : Go p.tables e below s Q C S (T.setTop (mkF m pc Ls (.int j :: .ref a :: rest))) := by
  obtain ⟨cl, A, r1, r2, r3, -⟩ := F
  exact Go.of (fun t q => X.aaload hx (j := j) (v := v) (by rw [eT]; exact A.1) (State.isArrayOf_alike hZ.alike A.2.1) hty A.2.2 (in_idx hj hk r1) (by rw [nat_idx hj, r3 _ hk, hv]) (g := mkF m pc Ls (.int j :: .ref a :: rest)) rfl rfl hd t q) kk
theorem Go.iastore (X : Stand p l e R s m args below meth c T locs cells slots) (hx : p.tables.exec = Jvm.exec) (hZ : Z.Warmed39 s.vm) (eT : T.heap = h) {f : Nat → Int32} (F : ArF Z h a .int n (fun i => .int (f i))) {x : Int32} {k : Nat} (hj : j.toInt = (k : Int)) (hk : k < n) (hd : decode c.code pc = .ok (.iastore, 1))
    (kk : ∀ T' h', Stand p l e R s m args below meth c T' (locs ++ [⟨a, k⟩]) cells slots → T'.heap = h' → Wr h h' a k (.int x) → ArF Z h' a .int n (fun i => .int (upI f k x i)) → Go p.tables e below s Q C S (T'.setTop (mkF m (pc + 1) Ls rest))) : Go p.tables e below s Q C S (T.setTop (mkF m pc Ls (.int x :: .int j :: .ref a :: rest))) := by
  obtain ⟨cl, A, r1, r2, r3, r4⟩ := F
  obtain ⟨T', h', X', e', W, st⟩ := stI X hx hZ eT A (j := j) (in_idx hj hk r1) (g := mkF m pc Ls (.int x :: .int j :: .ref a :: rest)) rfl rfl hd
  rw [nat_idx hj] at X' W
  exact Go.of st (kk T' h' X' e' W ((ArF.set ⟨cl, A, r1, r2, r3, r4⟩ rfl W).congr fun i _ => by simp only [upV, upI]; split <;> rfl))
theorem Go.lastore (X : Stand p l e R s m args below meth c T locs cells slots) (hx : p.tables.exec = Jvm.exec) (hZ : Z.Warmed39 s.vm) (eT : T.heap = h) {f : Nat → Int64} (F : ArF Z h a .long n (fun i => .long (f i))) {x : Int64} {k : Nat} (hj : j.toInt = (k : Int)) (hk : k < n) (hd : decode c.code pc = .ok (.lastore, 1))
    (kk : ∀ T' h', Stand p l e R s m args below meth c T' (locs ++ [⟨a, k⟩]) cells slots → T'.heap = h' → Wr h h' a k (.long x) → ArF Z h' a .long n (fun i => .long (upJ f k x i)) → Go p.tables e below s Q C S (T'.setTop (mkF m (pc + 1) Ls rest))) : Go p.tables e below s Q C S (T.setTop (mkF m pc Ls (.long x :: .int j :: .ref a :: rest))) := by
  obtain ⟨cl, A, r1, r2, r3, r4⟩ := F
  obtain ⟨T', h', X', e', W, st⟩ := stJ X hx hZ eT A (j := j) (in_idx hj hk r1) (g := mkF m pc Ls (.long x :: .int j :: .ref a :: rest)) rfl rfl hd
  rw [nat_idx hj] at X' W
  exact Go.of st (kk T' h' X' e' W ((ArF.set ⟨cl, A, r1, r2, r3, r4⟩ rfl W).congr fun i _ => by simp only [upV, upJ]; split <;> rfl))
theorem Go.bastore (X : Stand p l e R s m args below meth c T locs cells slots) (hx : p.tables.exec = Jvm.exec) (hZ : Z.Warmed39 s.vm) (eT : T.heap = h) {f : Nat → Int32} (F : ArF Z h a .byte n (fun i => .int (f i))) {x : Int32} {k : Nat} (hj : j.toInt = (k : Int)) (hk : k < n) (hd : decode c.code pc = .ok (.bastore, 1))
    (kk : ∀ T' h', Stand p l e R s m args below meth c T' (locs ++ [⟨a, k⟩]) cells slots → T'.heap = h' → Wr h h' a k (.int (nar .byte x)) → ArF Z h' a .byte n (fun i => .int (upI f k (nar .byte x) i)) → Go p.tables e below s Q C S (T'.setTop (mkF m (pc + 1) Ls rest))) : Go p.tables e below s Q C S (T.setTop (mkF m pc Ls (.int x :: .int j :: .ref a :: rest))) := by
  obtain ⟨cl, A, r1, r2, r3, r4⟩ := F
  obtain ⟨T', h', X', e', W, st⟩ := stB X hx hZ eT A (j := j) (in_idx hj hk r1) (g := mkF m pc Ls (.int x :: .int j :: .ref a :: rest)) rfl rfl hd
  rw [nat_idx hj] at X' W
  exact Go.of st (kk T' h' X' e' W ((ArF.set ⟨cl, A, r1, r2, r3, r4⟩ (fits_nar_byte _) W).congr fun i _ => by simp only [upV, upI]; split <;> rfl))
theorem Go.dastore (X : Stand p l e R s m args below meth c T locs cells slots) (hx : p.tables.exec = Jvm.exec) (hZ : Z.Warmed39 s.vm) (eT : T.heap = h) {f : Nat → UInt64} (F : ArF Z h a .double n (fun i => .double (f i))) {x : UInt64} {k : Nat} (hj : j.toInt = (k : Int)) (hk : k < n) (hd : decode c.code pc = .ok (.dastore, 1))
    (kk : ∀ T' h', Stand p l e R s m args below meth c T' (locs ++ [⟨a, k⟩]) cells slots → T'.heap = h' → Wr h h' a k (.double x) → ArF Z h' a .double n (fun i => .double (upD f k x i)) → Go p.tables e below s Q C S (T'.setTop (mkF m (pc + 1) Ls rest))) : Go p.tables e below s Q C S (T.setTop (mkF m pc Ls (.double x :: .int j :: .ref a :: rest))) := by
  obtain ⟨cl, A, r1, r2, r3, r4⟩ := F
  obtain ⟨T', h', X', e', W, st⟩ := stD X hx hZ eT A (j := j) (in_idx hj hk r1) (g := mkF m pc Ls (.double x :: .int j :: .ref a :: rest)) rfl rfl hd
  rw [nat_idx hj] at X' W
  exact Go.of st (kk T' h' X' e' W ((ArF.set ⟨cl, A, r1, r2, r3, r4⟩ rfl W).congr fun i _ => by simp only [upV, upD]; split <;> rfl))
theorem Go.newarr (X : Stand p l e R s m args below meth c T locs cells slots) (hx : p.tables.exec = Jvm.exec) (hZ : Z.Warmed39 s.vm) {aty : ArrayType} {ty : FieldType} (hty : newarray.typeOf aty = ty) (w : (Cond.arrayClass ty).before a0 Z = true) (eT : T.heap = h) {z : Int32} (hn : ¬ z < 0) (hz : z.toNatClampNeg = n) {cap : Nat} (hcap : n ≤ cap) (hb : cap * 8 ≤ 536870912) (hc : cells + 1 ≤ R.cells) (hl : slots + cap ≤ R.slots)
    (hd : decode c.code pc = .ok (.newarray aty, 2))
    (kk : ∀ T' h' b, Stand p l e R s m args below meth c T' locs (cells + 1) (slots + cap) → T'.heap = h' → Ext h h' → b = h.size → ArF Z h' b ty n (fun _ => defaultValue ty) → Go p.tables e below s Q C S (T'.setTop (mkF m (pc + 2) Ls (.ref b :: rest)))) : Go p.tables e below s Q C S (T.setTop (mkF m pc Ls (.int z :: rest))) := by
  subst hty
  obtain ⟨T', h', cA, X', e', E, A, st⟩ := newP X hx hZ w eT (g := mkF m pc Ls (.int z :: rest)) rfl hd rfl hn (cap := cap) (by omega) hb hc hl
  exact Go.of st (kk T' h' h.size X' e' E rfl (ArF.new A hn hz))
theorem Go.arraycopy (X : Stand p l e R s m args below meth c T locs cells slots) (hx : p.tables.exec = Jvm.exec) (hZ : Z.Warmed39 s.vm) {own : String} {index : Nat} (hown : s.vm.findClass own = some m.cls)
    (w1 : (Cond.methodLink own index Jvm.Stand.acN).before a0 Z = true) (w2 : (Cond.native Jvm.Stand.acN).before a0 Z = true) (w3 : (Cond.static Jvm.Stand.acN).before a0 Z = true) (w4 : (Cond.initialized "java/lang/System").before a0 Z = true) (eT : T.heap = h)
    {ty : FieldType} {b : Addr} {n' : Nat} {f f' : Nat → Value} (A : ArF Z h a ty n f) (B : ArF Z h b ty n' f') (hty : refKind ty = false) {sp dp nn : Int32} {ks kd kn : Nat} (h1 : sp.toInt = (ks : Int)) (h2 : dp.toInt = (kd : Int)) (h3 : nn.toInt = (kn : Int)) (h4 : ks + kn ≤ n) (h5 : kd + kn ≤ n') {n0 : Nat} (N : Fr n0 locs) (ge : n0 ≤ b)
    (hsz : Ls.size = c.maxLocals) (hd : decode c.code pc = .ok (.invokestatic index, 3)) (hf : 1 ≤ R.frames) {W : Nat} (hW : (rest.map fun v => v.category).sum = W) (hlo : W + (nativeFrameWords "java/lang/System" "arraycopy" 5 + 11) ≤ R.locals)
    (kk : ∀ T' h' L, Stand p l e R s m args below meth c T' L cells slots → T'.heap = h' → Fr n0 L → Keep h h' [b] → ArF Z h' b ty n' (cpF f f' ks kd kn) → Go p.tables e below s Q C S (T'.setTop (mkF m (pc + 3) Ls rest))) : Go p.tables e below s Q C S (T.setTop (mkF m pc Ls (.int nn :: .int dp :: .ref b :: .int sp :: .ref a :: rest))) := by
  obtain ⟨k1, A'⟩ := A.arv (.int 0)
  obtain ⟨k2, B'⟩ := B.arv (.int 0)
  have e1 := nat_idx h1
  have e2 := nat_idx h2
  have e3 := nat_idx h3
  have z0 : (0 : Int32).toInt = 0 := rfl
  have zn : (n.toInt32).toNatClampNeg = n := by have := len_toInt A.len; rw [Int32.toNatClampNeg]; omega
  have zn' : (n'.toInt32).toNatClampNeg = n' := by have := len_toInt B.len; rw [Int32.toNatClampNeg]; omega
  obtain ⟨T', h', L, X', e', N', K, V, st⟩ := cpA X hx hZ hown w1 w2 w3 w4 eT A' B' (Or.inl ⟨rfl, hty⟩) (sp := sp) (dp := dp) (nn := nn) (by rw [Int32.lt_iff_toInt_lt]; omega) (by rw [Int32.lt_iff_toInt_lt]; omega) (by rw [Int32.lt_iff_toInt_lt]; omega) (by rw [e1, e3, zn]; exact h4) (by rw [e2, e3, zn']; exact h5) rfl (by rw [e2, e3]; simpa using h5) N ge (g := mkF m pc Ls (.int nn :: .int dp :: .ref b :: .int sp :: .ref a :: rest)) rfl hsz rfl hd hf (W := W) (by show 2 * 0 + _ ≤ _; rw [hW]; omega) hlo
  refine Go.of st (kk T' h' L X' e' N' K ?_)
  have V2 := arF_of_arv V
  rw [zn'] at V2
  refine V2.congr fun i hi => ?_
  rw [e1, e2, e3]
  simp only [cpF, List.getD]
  by_cases c1 : i < kd
  · rw [if_neg (by omega), List.append_assoc, List.getElem?_append_left (by simp; omega)]
    simp [c1, hi]
  · by_cases c2 : i < kd + kn
    · have c3 : ks + (i - kd) < n := by omega
      have c4 : i - kd < kn := by omega
      rw [if_pos ⟨by omega, c2⟩, List.append_assoc, List.getElem?_append_right (by simp; omega)]
      have c5 : (List.take kd (List.map f' (List.range n'))).length = kd := by simp; omega
      rw [c5, List.getElem?_append_left (by simpa using c4)]
      simp [c4, c3]
    · have c5 : (List.take kd (List.map f' (List.range n')) ++ List.map (fun i => ((List.map f (List.range n))[ks + i]?).getD (Value.int 0)) (List.range kn)).length = kd + kn := by simp; omega
      rw [if_neg (by omega), List.getElem?_append_right (by rw [c5]; omega), c5]
      have c6 : kd + kn + (i - (kd + kn)) = i := by omega
      simp [c6, hi]
end ArrSteps
section Steps1
variable {p : Program} {l : Launch} {e : Env} {R : Room} {s : State} {m : MethodId} {args : Array Value} {below : List Frame} {meth : Method} {c : Code} {T : State} {locs : List Loc} {cells slots : Nat} {Q : Option Value → Heap → List Loc → Prop} {C S : Nat} {bs : ByteArray} {pc pc' : Nat} {Ls : Array Slot} {st : List Value} {Z : State} {a0 : Array Value} {h : Heap} {own : String}
theorem g_iloadN (X : Stand p l e R s m args below meth c T locs cells slots) (hx : p.tables.exec = Jvm.exec) (hby : c.code = bs) {k : Fin 4} {v : Int32} (hd : decode bs pc = .ok (.iload_n k, 1)) (hp : pc + 1 = pc') (hl : Ls[k.val]? = some (.val (.int v))) (kk : Go p.tables e below s Q C S (T.setTop (mkF m pc' Ls (.int v :: st)))) : Go p.tables e below s Q C S (T.setTop (mkF m pc Ls (st))) := by
  subst hp
  exact Go.of (fun _ q => XS.iloadN X.here hx rfl (hb hby hd) hl q) kk
theorem g_iload (X : Stand p l e R s m args below meth c T locs cells slots) (hx : p.tables.exec = Jvm.exec) (hby : c.code = bs) {k : Nat} {v : Int32} (hd : decode bs pc = .ok (.iload k, 2)) (hp : pc + 2 = pc') (hl : Ls[k]? = some (.val (.int v))) (kk : Go p.tables e below s Q C S (T.setTop (mkF m pc' Ls (.int v :: st)))) : Go p.tables e below s Q C S (T.setTop (mkF m pc Ls (st))) := by
  subst hp
  exact Go.of (fun _ q => XS.iload X.here hx rfl (hb hby hd) hl q) kk
theorem g_istoreN (X : Stand p l e R s m args below meth c T locs cells slots) (hx : p.tables.exec = Jvm.exec) (hby : c.code = bs) {k : Fin 4} {v : Int32} {L' : Array Slot} (hd : decode bs pc = .ok (.istore_n k, 1)) (hp : pc + 1 = pc') (hl : storeLocals Ls k.val (.int v) = some L') (kk : Go p.tables e below s Q C S (T.setTop (mkF m pc' L' (st)))) : Go p.tables e below s Q C S (T.setTop (mkF m pc Ls (.int v :: st))) := by
  subst hp
  exact Go.of (fun _ q => XS.istoreN X.here hx rfl (hb hby hd) rfl hl q) kk
theorem g_istore (X : Stand p l e R s m args below meth c T locs cells slots) (hx : p.tables.exec = Jvm.exec) (hby : c.code = bs) {k : Nat} {v : Int32} {L' : Array Slot} (hd : decode bs pc = .ok (.istore k, 2)) (hp : pc + 2 = pc') (hl : storeLocals Ls k (.int v) = some L') (kk : Go p.tables e below s Q C S (T.setTop (mkF m pc' L' (st)))) : Go p.tables e below s Q C S (T.setTop (mkF m pc Ls (.int v :: st))) := by
  subst hp
  exact Go.of (fun _ q => XS.istore X.here hx rfl (hb hby hd) rfl hl q) kk
theorem g_iadd (X : Stand p l e R s m args below meth c T locs cells slots) (hx : p.tables.exec = Jvm.exec) (hby : c.code = bs) {x y z : Int32} (hd : decode bs pc = .ok (.iadd, 1)) (hp : pc + 1 = pc') (hz : x + y = z) (kk : Go p.tables e below s Q C S (T.setTop (mkF m pc' Ls (.int z :: st)))) : Go p.tables e below s Q C S (T.setTop (mkF m pc Ls (.int y :: .int x :: st))) := by
  subst hp; subst hz
  exact Go.of (fun _ q => XS.iadd X.here hx rfl (hb hby hd) rfl q) kk
theorem g_isub (X : Stand p l e R s m args below meth c T locs cells slots) (hx : p.tables.exec = Jvm.exec) (hby : c.code = bs) {x y z : Int32} (hd : decode bs pc = .ok (.isub, 1)) (hp : pc + 1 = pc') (hz : x - y = z) (kk : Go p.tables e below s Q C S (T.setTop (mkF m pc' Ls (.int z :: st)))) : Go p.tables e below s Q C S (T.setTop (mkF m pc Ls (.int y :: .int x :: st))) := by
  subst hp; subst hz
  exact Go.of (fun _ q => XS.isub X.here hx rfl (hb hby hd) rfl q) kk
theorem g_imul (X : Stand p l e R s m args below meth c T locs cells slots) (hx : p.tables.exec = Jvm.exec) (hby : c.code = bs) {x y z : Int32} (hd : decode bs pc = .ok (.imul, 1)) (hp : pc + 1 = pc') (hz : x * y = z) (kk : Go p.tables e below s Q C S (T.setTop (mkF m pc' Ls (.int z :: st)))) : Go p.tables e below s Q C S (T.setTop (mkF m pc Ls (.int y :: .int x :: st))) := by
  subst hp; subst hz
  exact Go.of (fun _ q => XS.imul X.here hx rfl (hb hby hd) rfl q) kk
theorem g_iand (X : Stand p l e R s m args below meth c T locs cells slots) (hx : p.tables.exec = Jvm.exec) (hby : c.code = bs) {x y z : Int32} (hd : decode bs pc = .ok (.iand, 1)) (hp : pc + 1 = pc') (hz : x &&& y = z) (kk : Go p.tables e below s Q C S (T.setTop (mkF m pc' Ls (.int z :: st)))) : Go p.tables e below s Q C S (T.setTop (mkF m pc Ls (.int y :: .int x :: st))) := by
  subst hp; subst hz
  exact Go.of (fun _ q => XS.iand X.here hx rfl (hb hby hd) rfl q) kk
theorem g_ior (X : Stand p l e R s m args below meth c T locs cells slots) (hx : p.tables.exec = Jvm.exec) (hby : c.code = bs) {x y z : Int32} (hd : decode bs pc = .ok (.ior, 1)) (hp : pc + 1 = pc') (hz : x ||| y = z) (kk : Go p.tables e below s Q C S (T.setTop (mkF m pc' Ls (.int z :: st)))) : Go p.tables e below s Q C S (T.setTop (mkF m pc Ls (.int y :: .int x :: st))) := by
  subst hp; subst hz
  exact Go.of (fun _ q => XS.ior X.here hx rfl (hb hby hd) rfl q) kk
theorem g_ixor (X : Stand p l e R s m args below meth c T locs cells slots) (hx : p.tables.exec = Jvm.exec) (hby : c.code = bs) {x y z : Int32} (hd : decode bs pc = .ok (.ixor, 1)) (hp : pc + 1 = pc') (hz : x ^^^ y = z) (kk : Go p.tables e below s Q C S (T.setTop (mkF m pc' Ls (.int z :: st)))) : Go p.tables e below s Q C S (T.setTop (mkF m pc Ls (.int y :: .int x :: st))) := by
  subst hp; subst hz
  exact Go.of (fun _ q => XS.ixor X.here hx rfl (hb hby hd) rfl q) kk
theorem g_ineg (X : Stand p l e R s m args below meth c T locs cells slots) (hx : p.tables.exec = Jvm.exec) (hby : c.code = bs) {x z : Int32} (hd : decode bs pc = .ok (.ineg, 1)) (hp : pc + 1 = pc') (hz : -x = z) (kk : Go p.tables e below s Q C S (T.setTop (mkF m pc' Ls (.int z :: st)))) : Go p.tables e below s Q C S (T.setTop (mkF m pc Ls (.int x :: st))) := by
  subst hp; subst hz
  exact Go.of (fun _ q => XS.ineg X.here hx rfl (hb hby hd) rfl q) kk
theorem g_idiv (X : Stand p l e R s m args below meth c T locs cells slots) (hx : p.tables.exec = Jvm.exec) (hby : c.code = bs) {x y z : Int32} (hd : decode bs pc = .ok (.idiv, 1)) (hp : pc + 1 = pc') (hy : y ≠ 0) (hz : x / y = z) (kk : Go p.tables e below s Q C S (T.setTop (mkF m pc' Ls (.int z :: st)))) : Go p.tables e below s Q C S (T.setTop (mkF m pc Ls (.int y :: .int x :: st))) := by
  subst hp; subst hz
  exact Go.of (fun _ q => XS.idiv X.here hx rfl (hb hby hd) rfl hy q) kk
theorem g_lloadN (X : Stand p l e R s m args below meth c T locs cells slots) (hx : p.tables.exec = Jvm.exec) (hby : c.code = bs) {k : Fin 4} {v : Int64} (hd : decode bs pc = .ok (.lload_n k, 1)) (hp : pc + 1 = pc') (hl : Ls[k.val]? = some (.val (.long v))) (kk : Go p.tables e below s Q C S (T.setTop (mkF m pc' Ls (.long v :: st)))) : Go p.tables e below s Q C S (T.setTop (mkF m pc Ls (st))) := by
  subst hp
  exact Go.of (fun _ q => XS.lloadN X.here hx rfl (hb hby hd) hl q) kk
theorem g_lload (X : Stand p l e R s m args below meth c T locs cells slots) (hx : p.tables.exec = Jvm.exec) (hby : c.code = bs) {k : Nat} {v : Int64} (hd : decode bs pc = .ok (.lload k, 2)) (hp : pc + 2 = pc') (hl : Ls[k]? = some (.val (.long v))) (kk : Go p.tables e below s Q C S (T.setTop (mkF m pc' Ls (.long v :: st)))) : Go p.tables e below s Q C S (T.setTop (mkF m pc Ls (st))) := by
  subst hp
  exact Go.of (fun _ q => XS.lload X.here hx rfl (hb hby hd) hl q) kk
theorem g_lstoreN (X : Stand p l e R s m args below meth c T locs cells slots) (hx : p.tables.exec = Jvm.exec) (hby : c.code = bs) {k : Fin 4} {v : Int64} {L' : Array Slot} (hd : decode bs pc = .ok (.lstore_n k, 1)) (hp : pc + 1 = pc') (hl : storeLocals Ls k.val (.long v) = some L') (kk : Go p.tables e below s Q C S (T.setTop (mkF m pc' L' (st)))) : Go p.tables e below s Q C S (T.setTop (mkF m pc Ls (.long v :: st))) := by
  subst hp
  exact Go.of (fun _ q => XS.lstoreN X.here hx rfl (hb hby hd) rfl hl q) kk
theorem g_lstore (X : Stand p l e R s m args below meth c T locs cells slots) (hx : p.tables.exec = Jvm.exec) (hby : c.code = bs) {k : Nat} {v : Int64} {L' : Array Slot} (hd : decode bs pc = .ok (.lstore k, 2)) (hp : pc + 2 = pc') (hl : storeLocals Ls k (.long v) = some L') (kk : Go p.tables e below s Q C S (T.setTop (mkF m pc' L' (st)))) : Go p.tables e below s Q C S (T.setTop (mkF m pc Ls (.long v :: st))) := by
  subst hp
  exact Go.of (fun _ q => XS.lstore X.here hx rfl (hb hby hd) rfl hl q) kk
theorem g_ladd (X : Stand p l e R s m args below meth c T locs cells slots) (hx : p.tables.exec = Jvm.exec) (hby : c.code = bs) {x y z : Int64} (hd : decode bs pc = .ok (.ladd, 1)) (hp : pc + 1 = pc') (hz : x + y = z) (kk : Go p.tables e below s Q C S (T.setTop (mkF m pc' Ls (.long z :: st)))) : Go p.tables e below s Q C S (T.setTop (mkF m pc Ls (.long y :: .long x :: st))) := by
  subst hp; subst hz
  exact Go.of (fun _ q => XS.ladd X.here hx rfl (hb hby hd) rfl q) kk
theorem g_lsub (X : Stand p l e R s m args below meth c T locs cells slots) (hx : p.tables.exec = Jvm.exec) (hby : c.code = bs) {x y z : Int64} (hd : decode bs pc = .ok (.lsub, 1)) (hp : pc + 1 = pc') (hz : x - y = z) (kk : Go p.tables e below s Q C S (T.setTop (mkF m pc' Ls (.long z :: st)))) : Go p.tables e below s Q C S (T.setTop (mkF m pc Ls (.long y :: .long x :: st))) := by
  subst hp; subst hz
  exact Go.of (fun _ q => XS.lsub X.here hx rfl (hb hby hd) rfl q) kk
theorem g_lmul (X : Stand p l e R s m args below meth c T locs cells slots) (hx : p.tables.exec = Jvm.exec) (hby : c.code = bs) {x y z : Int64} (hd : decode bs pc = .ok (.lmul, 1)) (hp : pc + 1 = pc') (hz : x * y = z) (kk : Go p.tables e below s Q C S (T.setTop (mkF m pc' Ls (.long z :: st)))) : Go p.tables e below s Q C S (T.setTop (mkF m pc Ls (.long y :: .long x :: st))) := by
  subst hp; subst hz
  exact Go.of (fun _ q => XS.lmul X.here hx rfl (hb hby hd) rfl q) kk
theorem g_land (X : Stand p l e R s m args below meth c T locs cells slots) (hx : p.tables.exec = Jvm.exec) (hby : c.code = bs) {x y z : Int64} (hd : decode bs pc = .ok (.land, 1)) (hp : pc + 1 = pc') (hz : x &&& y = z) (kk : Go p.tables e below s Q C S (T.setTop (mkF m pc' Ls (.long z :: st)))) : Go p.tables e below s Q C S (T.setTop (mkF m pc Ls (.long y :: .long x :: st))) := by
  subst hp; subst hz
  exact Go.of (fun _ q => XS.land X.here hx rfl (hb hby hd) rfl q) kk
theorem g_lor (X : Stand p l e R s m args below meth c T locs cells slots) (hx : p.tables.exec = Jvm.exec) (hby : c.code = bs) {x y z : Int64} (hd : decode bs pc = .ok (.lor, 1)) (hp : pc + 1 = pc') (hz : x ||| y = z) (kk : Go p.tables e below s Q C S (T.setTop (mkF m pc' Ls (.long z :: st)))) : Go p.tables e below s Q C S (T.setTop (mkF m pc Ls (.long y :: .long x :: st))) := by
  subst hp; subst hz
  exact Go.of (fun _ q => XS.lor X.here hx rfl (hb hby hd) rfl q) kk
theorem g_lxor (X : Stand p l e R s m args below meth c T locs cells slots) (hx : p.tables.exec = Jvm.exec) (hby : c.code = bs) {x y z : Int64} (hd : decode bs pc = .ok (.lxor, 1)) (hp : pc + 1 = pc') (hz : x ^^^ y = z) (kk : Go p.tables e below s Q C S (T.setTop (mkF m pc' Ls (.long z :: st)))) : Go p.tables e below s Q C S (T.setTop (mkF m pc Ls (.long y :: .long x :: st))) := by
  subst hp; subst hz
  exact Go.of (fun _ q => XS.lxor X.here hx rfl (hb hby hd) rfl q) kk
theorem g_lneg (X : Stand p l e R s m args below meth c T locs cells slots) (hx : p.tables.exec = Jvm.exec) (hby : c.code = bs) {x z : Int64} (hd : decode bs pc = .ok (.lneg, 1)) (hp : pc + 1 = pc') (hz : -x = z) (kk : Go p.tables e below s Q C S (T.setTop (mkF m pc' Ls (.long z :: st)))) : Go p.tables e below s Q C S (T.setTop (mkF m pc Ls (.long x :: st))) := by
  subst hp; subst hz
  exact Go.of (fun _ q => XS.lneg X.here hx rfl (hb hby hd) rfl q) kk
theorem g_ldiv (X : Stand p l e R s m args below meth c T locs cells slots) (hx : p.tables.exec = Jvm.exec) (hby : c.code = bs) {x y z : Int64} (hd : decode bs pc = .ok (.ldiv, 1)) (hp : pc + 1 = pc') (hy : y ≠ 0) (hz : x / y = z) (kk : Go p.tables e below s Q C S (T.setTop (mkF m pc' Ls (.long z :: st)))) : Go p.tables e below s Q C S (T.setTop (mkF m pc Ls (.long y :: .long x :: st))) := by
  subst hp; subst hz
  exact Go.of (fun _ q => XS.ldiv X.here hx rfl (hb hby hd) rfl hy q) kk
theorem g_dloadN (X : Stand p l e R s m args below meth c T locs cells slots) (hx : p.tables.exec = Jvm.exec) (hby : c.code = bs) {k : Fin 4} {v : UInt64} (hd : decode bs pc = .ok (.dload_n k, 1)) (hp : pc + 1 = pc') (hl : Ls[k.val]? = some (.val (.double v))) (kk : Go p.tables e below s Q C S (T.setTop (mkF m pc' Ls (.double v :: st)))) : Go p.tables e below s Q C S (T.setTop (mkF m pc Ls (st))) := by
  subst hp
  exact Go.of (fun _ q => XS.dloadN X.here hx rfl (hb hby hd) hl q) kk
theorem g_dload (X : Stand p l e R s m args below meth c T locs cells slots) (hx : p.tables.exec = Jvm.exec) (hby : c.code = bs) {k : Nat} {v : UInt64} (hd : decode bs pc = .ok (.dload k, 2)) (hp : pc + 2 = pc') (hl : Ls[k]? = some (.val (.double v))) (kk : Go p.tables e below s Q C S (T.setTop (mkF m pc' Ls (.double v :: st)))) : Go p.tables e below s Q C S (T.setTop (mkF m pc Ls (st))) := by
  subst hp
  exact Go.of (fun _ q => XS.dload X.here hx rfl (hb hby hd) hl q) kk
theorem g_dstoreN (X : Stand p l e R s m args below meth c T locs cells slots) (hx : p.tables.exec = Jvm.exec) (hby : c.code = bs) {k : Fin 4} {v : UInt64} {L' : Array Slot} (hd : decode bs pc = .ok (.dstore_n k, 1)) (hp : pc + 1 = pc') (hl : storeLocals Ls k.val (.double v) = some L') (kk : Go p.tables e below s Q C S (T.setTop (mkF m pc' L' (st)))) : Go p.tables e below s Q C S (T.setTop (mkF m pc Ls (.double v :: st))) := by
  subst hp
  exact Go.of (fun _ q => XS.dstoreN X.here hx rfl (hb hby hd) rfl hl q) kk
theorem g_dstore (X : Stand p l e R s m args below meth c T locs cells slots) (hx : p.tables.exec = Jvm.exec) (hby : c.code = bs) {k : Nat} {v : UInt64} {L' : Array Slot} (hd : decode bs pc = .ok (.dstore k, 2)) (hp : pc + 2 = pc') (hl : storeLocals Ls k (.double v) = some L') (kk : Go p.tables e below s Q C S (T.setTop (mkF m pc' L' (st)))) : Go p.tables e below s Q C S (T.setTop (mkF m pc Ls (.double v :: st))) := by
  subst hp
  exact Go.of (fun _ q => XS.dstore X.here hx rfl (hb hby hd) rfl hl q) kk
theorem g_irem (X : Stand p l e R s m args below meth c T locs cells slots) (hx : p.tables.exec = Jvm.exec) (hby : c.code = bs) {x y z : Int32} (hd : decode bs pc = .ok (.irem, 1)) (hp : pc + 1 = pc') (hy : y ≠ 0) (hz : x % y = z) (kk : Go p.tables e below s Q C S (T.setTop (mkF m pc' Ls (.int z :: st)))) : Go p.tables e below s Q C S (T.setTop (mkF m pc Ls (.int y :: .int x :: st))) := by
  subst hp; subst hz
  exact Go.of (fun _ q => XS.irem X.here hx rfl (hb hby hd) rfl hy (by rw [irem_mod]; exact q)) kk
theorem g_ishl (X : Stand p l e R s m args below meth c T locs cells slots) (hx : p.tables.exec = Jvm.exec) (hby : c.code = bs) {x z : Int32} {y : Int32} (hd : decode bs pc = .ok (.ishl, 1)) (hp : pc + 1 = pc') (hz : x <<< (y &&& 31) = z) (kk : Go p.tables e below s Q C S (T.setTop (mkF m pc' Ls (.int z :: st)))) : Go p.tables e below s Q C S (T.setTop (mkF m pc Ls (.int y :: .int x :: st))) := by
  subst hp; subst hz
  exact Go.of (fun _ q => XS.ishl X.here hx rfl (hb hby hd) rfl q) kk
theorem g_ishr (X : Stand p l e R s m args below meth c T locs cells slots) (hx : p.tables.exec = Jvm.exec) (hby : c.code = bs) {x z : Int32} {y : Int32} (hd : decode bs pc = .ok (.ishr, 1)) (hp : pc + 1 = pc') (hz : x >>> (y &&& 31) = z) (kk : Go p.tables e below s Q C S (T.setTop (mkF m pc' Ls (.int z :: st)))) : Go p.tables e below s Q C S (T.setTop (mkF m pc Ls (.int y :: .int x :: st))) := by
  subst hp; subst hz
  exact Go.of (fun _ q => XS.ishr X.here hx rfl (hb hby hd) rfl q) kk
theorem g_iushr (X : Stand p l e R s m args below meth c T locs cells slots) (hx : p.tables.exec = Jvm.exec) (hby : c.code = bs) {x z : Int32} {y : Int32} (hd : decode bs pc = .ok (.iushr, 1)) (hp : pc + 1 = pc') (hz : (x.toUInt32 >>> (y &&& 31).toUInt32).toInt32 = z) (kk : Go p.tables e below s Q C S (T.setTop (mkF m pc' Ls (.int z :: st)))) : Go p.tables e below s Q C S (T.setTop (mkF m pc Ls (.int y :: .int x :: st))) := by
  subst hp; subst hz
  exact Go.of (fun _ q => XS.iushr X.here hx rfl (hb hby hd) rfl q) kk
theorem g_lshl (X : Stand p l e R s m args below meth c T locs cells slots) (hx : p.tables.exec = Jvm.exec) (hby : c.code = bs) {x z : Int64} {y : Int32} (hd : decode bs pc = .ok (.lshl, 1)) (hp : pc + 1 = pc') (hz : x <<< (y &&& 0x3f).toInt64 = z) (kk : Go p.tables e below s Q C S (T.setTop (mkF m pc' Ls (.long z :: st)))) : Go p.tables e below s Q C S (T.setTop (mkF m pc Ls (.int y :: .long x :: st))) := by
  subst hp; subst hz
  exact Go.of (fun _ q => XS.lshl X.here hx rfl (hb hby hd) rfl q) kk
theorem g_lshr (X : Stand p l e R s m args below meth c T locs cells slots) (hx : p.tables.exec = Jvm.exec) (hby : c.code = bs) {x z : Int64} {y : Int32} (hd : decode bs pc = .ok (.lshr, 1)) (hp : pc + 1 = pc') (hz : x >>> (y &&& 0x3f).toInt64 = z) (kk : Go p.tables e below s Q C S (T.setTop (mkF m pc' Ls (.long z :: st)))) : Go p.tables e below s Q C S (T.setTop (mkF m pc Ls (.int y :: .long x :: st))) := by
  subst hp; subst hz
  exact Go.of (fun _ q => XS.lshr X.here hx rfl (hb hby hd) rfl q) kk
theorem g_lushr (X : Stand p l e R s m args below meth c T locs cells slots) (hx : p.tables.exec = Jvm.exec) (hby : c.code = bs) {x z : Int64} {y : Int32} (hd : decode bs pc = .ok (.lushr, 1)) (hp : pc + 1 = pc') (hz : (x.toUInt64 >>> (y &&& 0x3f).toInt64.toUInt64).toInt64 = z) (kk : Go p.tables e below s Q C S (T.setTop (mkF m pc' Ls (.long z :: st)))) : Go p.tables e below s Q C S (T.setTop (mkF m pc Ls (.int y :: .long x :: st))) := by
  subst hp; subst hz
  exact Go.of (fun _ q => XS.lushr X.here hx rfl (hb hby hd) rfl q) kk
theorem g_i2l (X : Stand p l e R s m args below meth c T locs cells slots) (hx : p.tables.exec = Jvm.exec) (hby : c.code = bs) {x : Int32} {z : Int64} (hd : decode bs pc = .ok (.i2l, 1)) (hp : pc + 1 = pc') (hz : x.toInt64 = z) (kk : Go p.tables e below s Q C S (T.setTop (mkF m pc' Ls (.long z :: st)))) : Go p.tables e below s Q C S (T.setTop (mkF m pc Ls (.int x :: st))) := by
  subst hp; subst hz
  exact Go.of (fun _ q => XS.i2l X.here hx rfl (hb hby hd) rfl q) kk
theorem g_l2i (X : Stand p l e R s m args below meth c T locs cells slots) (hx : p.tables.exec = Jvm.exec) (hby : c.code = bs) {x : Int64} {z : Int32} (hd : decode bs pc = .ok (.l2i, 1)) (hp : pc + 1 = pc') (hz : x.toInt32 = z) (kk : Go p.tables e below s Q C S (T.setTop (mkF m pc' Ls (.int z :: st)))) : Go p.tables e below s Q C S (T.setTop (mkF m pc Ls (.long x :: st))) := by
  subst hp; subst hz
  exact Go.of (fun _ q => XS.l2i X.here hx rfl (hb hby hd) rfl q) kk
theorem g_i2b (X : Stand p l e R s m args below meth c T locs cells slots) (hx : p.tables.exec = Jvm.exec) (hby : c.code = bs) {x : Int32} {z : Int32} (hd : decode bs pc = .ok (.i2b, 1)) (hp : pc + 1 = pc') (hz : x.toInt8.toInt32 = z) (kk : Go p.tables e below s Q C S (T.setTop (mkF m pc' Ls (.int z :: st)))) : Go p.tables e below s Q C S (T.setTop (mkF m pc Ls (.int x :: st))) := by
  subst hp; subst hz
  exact Go.of (fun _ q => XS.i2b X.here hx rfl (hb hby hd) rfl q) kk
theorem g_i2c (X : Stand p l e R s m args below meth c T locs cells slots) (hx : p.tables.exec = Jvm.exec) (hby : c.code = bs) {x : Int32} {z : Int32} (hd : decode bs pc = .ok (.i2c, 1)) (hp : pc + 1 = pc') (hz : x.toUInt32.toUInt16.toUInt32.toInt32 = z) (kk : Go p.tables e below s Q C S (T.setTop (mkF m pc' Ls (.int z :: st)))) : Go p.tables e below s Q C S (T.setTop (mkF m pc Ls (.int x :: st))) := by
  subst hp; subst hz
  exact Go.of (fun _ q => XS.i2c X.here hx rfl (hb hby hd) rfl q) kk
theorem g_i2s (X : Stand p l e R s m args below meth c T locs cells slots) (hx : p.tables.exec = Jvm.exec) (hby : c.code = bs) {x : Int32} {z : Int32} (hd : decode bs pc = .ok (.i2s, 1)) (hp : pc + 1 = pc') (hz : x.toInt16.toInt32 = z) (kk : Go p.tables e below s Q C S (T.setTop (mkF m pc' Ls (.int z :: st)))) : Go p.tables e below s Q C S (T.setTop (mkF m pc Ls (.int x :: st))) := by
  subst hp; subst hz
  exact Go.of (fun _ q => XS.i2s X.here hx rfl (hb hby hd) rfl q) kk
theorem g_lcmp (X : Stand p l e R s m args below meth c T locs cells slots) (hx : p.tables.exec = Jvm.exec) (hby : c.code = bs) {x y : Int64} (hd : decode bs pc = .ok (.lcmp, 1)) (hp : pc + 1 = pc')  (kk : Go p.tables e below s Q C S (T.setTop (mkF m pc' Ls (.int (lcmpW x y) :: st)))) : Go p.tables e below s Q C S (T.setTop (mkF m pc Ls (.long y :: .long x :: st))) := by
  subst hp
  exact Go.of (fun _ q => XS.lcmp X.here hx rfl (hb hby hd) rfl q) kk
theorem g_aloadN (X : Stand p l e R s m args below meth c T locs cells slots) (hx : p.tables.exec = Jvm.exec) (hby : c.code = bs) {k : Fin 4} {v : Value} (hd : decode bs pc = .ok (.aload_n k, 1)) (hp : pc + 1 = pc') (hl : Ls[k.val]? = some (.val v)) (hr : v.isRef = true) (kk : Go p.tables e below s Q C S (T.setTop (mkF m pc' Ls (v :: st)))) : Go p.tables e below s Q C S (T.setTop (mkF m pc Ls (st))) := by
  subst hp
  exact Go.of (fun _ q => XS.aloadN X.here hx rfl (hb hby hd) hl hr q) kk
theorem g_aload (X : Stand p l e R s m args below meth c T locs cells slots) (hx : p.tables.exec = Jvm.exec) (hby : c.code = bs) {k : Nat} {v : Value} (hd : decode bs pc = .ok (.aload k, 2)) (hp : pc + 2 = pc') (hl : Ls[k]? = some (.val v)) (hr : v.isRef = true) (kk : Go p.tables e below s Q C S (T.setTop (mkF m pc' Ls (v :: st)))) : Go p.tables e below s Q C S (T.setTop (mkF m pc Ls (st))) := by
  subst hp
  exact Go.of (fun _ q => XS.aload X.here hx rfl (hb hby hd) hl hr q) kk
theorem g_astoreN (X : Stand p l e R s m args below meth c T locs cells slots) (hx : p.tables.exec = Jvm.exec) (hby : c.code = bs) {k : Fin 4} {v : Value} {L' : Array Slot} (hd : decode bs pc = .ok (.astore_n k, 1)) (hp : pc + 1 = pc') (hr : v.isRef = true) (hl : storeLocals Ls k.val v = some L') (kk : Go p.tables e below s Q C S (T.setTop (mkF m pc' L' (st)))) : Go p.tables e below s Q C S (T.setTop (mkF m pc Ls (v :: st))) := by
  subst hp
  exact Go.of (fun _ q => XS.astoreN X.here hx rfl (hb hby hd) rfl hr hl q) kk
theorem g_astore (X : Stand p l e R s m args below meth c T locs cells slots) (hx : p.tables.exec = Jvm.exec) (hby : c.code = bs) {k : Nat} {v : Value} {L' : Array Slot} (hd : decode bs pc = .ok (.astore k, 2)) (hp : pc + 2 = pc') (hr : v.isRef = true) (hl : storeLocals Ls k v = some L') (kk : Go p.tables e below s Q C S (T.setTop (mkF m pc' L' (st)))) : Go p.tables e below s Q C S (T.setTop (mkF m pc Ls (v :: st))) := by
  subst hp
  exact Go.of (fun _ q => XS.astore X.here hx rfl (hb hby hd) rfl hr hl q) kk
theorem g_iconst (X : Stand p l e R s m args below meth c T locs cells slots) (hx : p.tables.exec = Jvm.exec) (hby : c.code = bs) {i : Int} {z : Int32} (hd : decode bs pc = .ok (.iconst i, 1)) (hp : pc + 1 = pc') (hz : Int32.ofInt i = z) (kk : Go p.tables e below s Q C S (T.setTop (mkF m pc' Ls (.int z :: st)))) : Go p.tables e below s Q C S (T.setTop (mkF m pc Ls (st))) := by
  subst hp; subst hz
  exact Go.of (fun _ q => XS.iconst X.here hx rfl (hb hby hd) q) kk
theorem g_bipush (X : Stand p l e R s m args below meth c T locs cells slots) (hx : p.tables.exec = Jvm.exec) (hby : c.code = bs) {i : Int} {z : Int32} (hd : decode bs pc = .ok (.bipush i, 2)) (hp : pc + 2 = pc') (hz : (Int8.ofInt i).toInt32 = z) (kk : Go p.tables e below s Q C S (T.setTop (mkF m pc' Ls (.int z :: st)))) : Go p.tables e below s Q C S (T.setTop (mkF m pc Ls (st))) := by
  subst hp; subst hz
  exact Go.of (fun _ q => XS.bipush X.here hx rfl (hb hby hd) q) kk
theorem g_sipush (X : Stand p l e R s m args below meth c T locs cells slots) (hx : p.tables.exec = Jvm.exec) (hby : c.code = bs) {i : Int} {z : Int32} (hd : decode bs pc = .ok (.sipush i, 3)) (hp : pc + 3 = pc') (hz : (Int16.ofInt i).toInt32 = z) (kk : Go p.tables e below s Q C S (T.setTop (mkF m pc' Ls (.int z :: st)))) : Go p.tables e below s Q C S (T.setTop (mkF m pc Ls (st))) := by
  subst hp; subst hz
  exact Go.of (fun _ q => XS.sipush X.here hx rfl (hb hby hd) q) kk
theorem g_aconst_null (X : Stand p l e R s m args below meth c T locs cells slots) (hx : p.tables.exec = Jvm.exec) (hby : c.code = bs)  (hd : decode bs pc = .ok (.aconst_null, 1)) (hp : pc + 1 = pc')  (kk : Go p.tables e below s Q C S (T.setTop (mkF m pc' Ls (.null :: st)))) : Go p.tables e below s Q C S (T.setTop (mkF m pc Ls (st))) := by
  subst hp
  exact Go.of (fun _ q => XS.aconstNull X.here hx rfl (hb hby hd) q) kk
theorem g_iinc (X : Stand p l e R s m args below meth c T locs cells slots) (hx : p.tables.exec = Jvm.exec) (hby : c.code = bs) {k : Nat} {i : Int} {x : Int32} {L' : Array Slot} (hd : decode bs pc = .ok (.iinc k i, 3)) (hp : pc + 3 = pc') (hl : Ls[k]? = some (.val (.int x))) (hl' : storeLocals Ls k (.int (x + Int32.ofInt i)) = some L') (kk : Go p.tables e below s Q C S (T.setTop (mkF m pc' L' (st)))) : Go p.tables e below s Q C S (T.setTop (mkF m pc Ls (st))) := by
  subst hp
  exact Go.of (fun _ q => XS.iinc X.here hx rfl (hb hby hd) hl hl' q) kk
theorem g_dup (X : Stand p l e R s m args below meth c T locs cells slots) (hx : p.tables.exec = Jvm.exec) (hby : c.code = bs) {v : Value} (hd : decode bs pc = .ok (.dup, 1)) (hp : pc + 1 = pc') (hc : v.category = 1) (kk : Go p.tables e below s Q C S (T.setTop (mkF m pc' Ls (v :: v :: st)))) : Go p.tables e below s Q C S (T.setTop (mkF m pc Ls (v :: st))) := by
  subst hp
  exact Go.of (fun _ q => XS.dup X.here hx rfl (hb hby hd) rfl hc q) kk
theorem g_pop (X : Stand p l e R s m args below meth c T locs cells slots) (hx : p.tables.exec = Jvm.exec) (hby : c.code = bs) {v : Value} (hd : decode bs pc = .ok (.pop, 1)) (hp : pc + 1 = pc') (hc : v.category = 1) (kk : Go p.tables e below s Q C S (T.setTop (mkF m pc' Ls (st)))) : Go p.tables e below s Q C S (T.setTop (mkF m pc Ls (v :: st))) := by
  subst hp
  exact Go.of (fun _ q => XS.pop X.here hx rfl (hb hby hd) rfl hc q) kk
theorem g_dup_x1 (X : Stand p l e R s m args below meth c T locs cells slots) (hx : p.tables.exec = Jvm.exec) (hby : c.code = bs) {v w : Value} (hd : decode bs pc = .ok (.dup_x1, 1)) (hp : pc + 1 = pc') (hc : v.category = 1) (hc' : w.category = 1) (kk : Go p.tables e below s Q C S (T.setTop (mkF m pc' Ls (v :: w :: v :: st)))) : Go p.tables e below s Q C S (T.setTop (mkF m pc Ls (v :: w :: st))) := by
  subst hp
  exact Go.of (fun _ q => XS.dupX1 X.here hx rfl (hb hby hd) rfl hc hc' q) kk
theorem g_dup2 (X : Stand p l e R s m args below meth c T locs cells slots) (hx : p.tables.exec = Jvm.exec) (hby : c.code = bs) {v w : Value} (hd : decode bs pc = .ok (.dup2, 1)) (hp : pc + 1 = pc') (hc : v.category = 1) (hc' : w.category = 1) (kk : Go p.tables e below s Q C S (T.setTop (mkF m pc' Ls (v :: w :: v :: w :: st)))) : Go p.tables e below s Q C S (T.setTop (mkF m pc Ls (v :: w :: st))) := by
  subst hp
  exact Go.of (fun _ q => Jvm.Free.XT.dup2 X.here hx rfl (hb hby hd) rfl hc hc' q) kk
theorem g_goto (X : Stand p l e R s m args below meth c T locs cells slots) (hx : p.tables.exec = Jvm.exec) (hby : c.code = bs) {o : Int} (hd : decode bs pc = .ok (.goto o, 3)) (h0 : 0 ≤ (pc : Int) + o) (hp : ((pc : Int) + o).toNat = pc') (kk : Go p.tables e below s Q C S (T.setTop (mkF m pc' Ls st))) : Go p.tables e below s Q C S (T.setTop (mkF m pc Ls st)) :=
  Go.of (fun _ q => XS.goto X.here hx rfl (pc0 := pc) (pc' := pc') rfl (hb hby hd) h0 hp q) kk
theorem g_ifYes (X : Stand p l e R s m args below meth c T locs cells slots) (hx : p.tables.exec = Jvm.exec) (hby : c.code = bs) {cd : ClassFile.Cond} {x : Int32} {o : Int} (hd : decode bs pc = .ok (.ifCond cd o, 3)) (hc : if_icmp.holds cd x 0 = true) (h0 : 0 ≤ (pc : Int) + o) (hp : ((pc : Int) + o).toNat = pc') (kk : Go p.tables e below s Q C S (T.setTop (mkF m pc' Ls st))) : Go p.tables e below s Q C S (T.setTop (mkF m pc Ls (.int x :: st))) :=
  Go.of (fun _ q => XS.ifYes X.here hx rfl (pc0 := pc) (pc' := pc') rfl (hb hby hd) rfl ((if0 _ _).trans hc) h0 hp q) kk
theorem g_ifNo (X : Stand p l e R s m args below meth c T locs cells slots) (hx : p.tables.exec = Jvm.exec) (hby : c.code = bs) {cd : ClassFile.Cond} {x : Int32} {o : Int} (hd : decode bs pc = .ok (.ifCond cd o, 3)) (hc : if_icmp.holds cd x 0 = false) (hp : pc + 3 = pc') (kk : Go p.tables e below s Q C S (T.setTop (mkF m pc' Ls st))) : Go p.tables e below s Q C S (T.setTop (mkF m pc Ls (.int x :: st))) := by
  subst hp
  exact Go.of (fun _ q => XS.ifNo X.here hx rfl (hb hby hd) rfl ((if0 _ _).trans hc) q) kk
theorem g_icmpYes (X : Stand p l e R s m args below meth c T locs cells slots) (hx : p.tables.exec = Jvm.exec) (hby : c.code = bs) {cd : ClassFile.Cond} {x y : Int32} {o : Int} (hd : decode bs pc = .ok (.if_icmp cd o, 3)) (hc : if_icmp.holds cd x y = true) (h0 : 0 ≤ (pc : Int) + o) (hp : ((pc : Int) + o).toNat = pc') (kk : Go p.tables e below s Q C S (T.setTop (mkF m pc' Ls st))) : Go p.tables e below s Q C S (T.setTop (mkF m pc Ls (.int y :: .int x :: st))) :=
  Go.of (fun _ q => XS.icmpYes X.here hx rfl (pc0 := pc) (pc' := pc') rfl (hb hby hd) rfl hc h0 hp q) kk
theorem g_icmpNo (X : Stand p l e R s m args below meth c T locs cells slots) (hx : p.tables.exec = Jvm.exec) (hby : c.code = bs) {cd : ClassFile.Cond} {x y : Int32} {o : Int} (hd : decode bs pc = .ok (.if_icmp cd o, 3)) (hc : if_icmp.holds cd x y = false) (hp : pc + 3 = pc') (kk : Go p.tables e below s Q C S (T.setTop (mkF m pc' Ls st))) : Go p.tables e below s Q C S (T.setTop (mkF m pc Ls (.int y :: .int x :: st))) := by
  subst hp
  exact Go.of (fun _ q => XS.icmpNo X.here hx rfl (hb hby hd) rfl hc q) kk
theorem g_ldcI (X : Stand p l e R s m args below meth c T locs cells slots) (hx : p.tables.exec = Jvm.exec) (hby : c.code = bs) (hZ : Z.Warmed39 s.vm) (hown : s.vm.findClass own = some m.cls) {i : Nat} {z : Int32} (w : (Cond.constant own i z).before a0 Z = true) (hd : decode bs pc = .ok (.ldc i, 2)) (hp : pc + 2 = pc') (kk : Go p.tables e below s Q C S (T.setTop (mkF m pc' Ls (.int z :: st)))) : Go p.tables e below s Q C S (T.setTop (mkF m pc Ls st)) := by
  subst hp
  exact Go.of (fun _ q => X.ldcInt hx hown (mvT hZ w) (g := mkF m pc Ls st) rfl (hb hby hd) _ q) kk
theorem g_ldcwI (X : Stand p l e R s m args below meth c T locs cells slots) (hx : p.tables.exec = Jvm.exec) (hby : c.code = bs) (hZ : Z.Warmed39 s.vm) (hown : s.vm.findClass own = some m.cls) {i : Nat} {z : Int32} (w : (Cond.constant own i z).before a0 Z = true) (hd : decode bs pc = .ok (.ldc_w i, 3)) (hp : pc + 3 = pc') (kk : Go p.tables e below s Q C S (T.setTop (mkF m pc' Ls (.int z :: st)))) : Go p.tables e below s Q C S (T.setTop (mkF m pc Ls st)) := by
  subst hp
  exact Go.of (fun _ q => X.ldcwInt hx hown (mvT hZ w) (g := mkF m pc Ls st) rfl (hb hby hd) _ q) kk
theorem g_ldcL (X : Stand p l e R s m args below meth c T locs cells slots) (hx : p.tables.exec = Jvm.exec) (hby : c.code = bs) (hZ : Z.Warmed39 s.vm) (hown : s.vm.findClass own = some m.cls) {i : Nat} {z : Int64} (w : (Cond.constantLong own i z).before a0 Z = true) (hd : decode bs pc = .ok (.ldc2_w i, 3)) (hp : pc + 3 = pc') (kk : Go p.tables e below s Q C S (T.setTop (mkF m pc' Ls (.long z :: st)))) : Go p.tables e below s Q C S (T.setTop (mkF m pc Ls st)) := by
  subst hp
  exact Go.of (fun _ q => X.ldc2Long hx hown (mvT hZ w) (g := mkF m pc Ls st) rfl (hb hby hd) _ q) kk
theorem g_ldcD (X : Stand p l e R s m args below meth c T locs cells slots) (hx : p.tables.exec = Jvm.exec) (hby : c.code = bs) (hZ : Z.Warmed39 s.vm) (hown : s.vm.findClass own = some m.cls) {i : Nat} {z : UInt64} (w : (Cond.constantDouble own i z).before a0 Z = true) (hd : decode bs pc = .ok (.ldc2_w i, 3)) (hp : pc + 3 = pc') (kk : Go p.tables e below s Q C S (T.setTop (mkF m pc' Ls (.double z :: st)))) : Go p.tables e below s Q C S (T.setTop (mkF m pc Ls st)) := by
  subst hp
  exact Go.of (fun _ q => X.ldc2DoubleC hx hown (mvT hZ w) (g := mkF m pc Ls st) rfl (hb hby hd) _ q) kk
theorem g_getf (X : Stand p l e R s m args below meth c T locs cells slots) (hx : p.tables.exec = Jvm.exec) (hby : c.code = bs) (hZ : Z.Warmed39 s.vm) {R0 O n d host : String} {i : Nat} (hown : s.vm.findClass own = some m.cls) (w : (Cond.fieldLink own i R0 n d).before a0 Z = true ∨ (Cond.fieldLinkNest own i R0 n d host).before a0 Z = true) (via : Via Z R0 O n d) (eT : T.heap = h) {a : Addr} {v : Value} (F : Fld Z h a O n d v) (hd : decode bs pc = .ok (.getfield i, 3)) (hp : pc + 3 = pc') (kk : ∀ T', Stand p l e R s m args below meth c T' locs cells slots → T'.heap = h → Go p.tables e below s Q C S (T'.setTop (mkF m pc' Ls (v :: st)))) : Go p.tables e below s Q C S (T.setTop (mkF m pc Ls (.ref a :: st))) := by
  subst hp
  obtain ⟨T', X', e', q⟩ := getF X hx hZ hown w via eT F (g := mkF m pc Ls (.ref a :: st)) rfl rfl (hb hby hd)
  exact Go.of q (kk T' X' e')
theorem g_putf (X : Stand p l e R s m args below meth c T locs cells slots) (hx : p.tables.exec = Jvm.exec) (hby : c.code = bs) (hZ : Z.Warmed39 s.vm) {R0 O n d host : String} {i : Nat} (hown : s.vm.findClass own = some m.cls) (w : (Cond.fieldLink own i R0 n d).before a0 Z = true ∨ (Cond.fieldLinkNest own i R0 n d host).before a0 Z = true) (via : Via Z R0 O n d) (eT : T.heap = h) {a : Addr} {v old : Value} {K : String} {kk' : Nat} {ty : FieldType} (F : Fld Z h a O n d old) (E : Exa Z h a K) (L : (Cond.lays K O n d).before a0 Z = true ∨ ((Cond.laysFinal K O n d).before a0 Z = true ∧ own = O ∧ meth.name = "<init>")) (wi : (Cond.instantiable K kk').before a0 Z = true) (hty : parseFieldDescriptor d = some ty) (hn : narrow ty v = v) (hf : fits ty v = true) (hd : decode bs pc = .ok (.putfield i, 3)) (hp : pc + 3 = pc')
    (kk : ∀ T' h', Stand p l e R s m args below meth c T' (locs ++ [⟨a, Jvm.RoadKit.slotOf Z O n d⟩]) cells slots → T'.heap = h' → Wr h h' a (Jvm.RoadKit.slotOf Z O n d) v → Fld Z h' a O n d v → Go p.tables e below s Q C S (T'.setTop (mkF m pc' Ls st))) : Go p.tables e below s Q C S (T.setTop (mkF m pc Ls (v :: .ref a :: st))) := by
  subst hp
  obtain ⟨T', h', X', e', W, q⟩ := putF X hx hZ hown w via eT F E L wi hty hn hf (g := mkF m pc Ls (v :: .ref a :: st)) rfl rfl (hb hby hd)
  exact Go.of q (kk T' h' X' e' W (F.same W))
theorem g_new (X : Stand p l e R s m args below meth c T locs cells slots) (hx : p.tables.exec = Jvm.exec) (hby : c.code = bs) (hZ : Z.Warmed39 s.vm) {K : String} {i n : Nat} (hown : s.vm.findClass own = some m.cls) (w : (Cond.classLink own i K).before a0 Z = true) (wi : (Cond.instantiable K n).before a0 Z = true) (wz : (Cond.initialized K).before a0 Z = true) (eT : T.heap = h) (hd : decode bs pc = .ok (.new i, 3)) (hp : pc + 3 = pc') (hc : cells + 1 ≤ R.cells) (hl : slots + n ≤ R.slots)
    (kk : ∀ T' h' b, Stand p l e R s m args below meth c T' locs (cells + 1) (slots + n) → T'.heap = h' → Ext h h' → b = h.size → Exa Z h' b K → (∀ {O nm d : String} {ty : FieldType}, Laid Z a0 K O nm d → parseFieldDescriptor d = some ty → Fld Z h' b O nm d (defaultValue ty)) → Go p.tables e below s Q C S (T'.setTop (mkF m pc' Ls (.ref b :: st)))) : Go p.tables e below s Q C S (T.setTop (mkF m pc Ls st)) := by
  subst hp
  obtain ⟨T', h', X', e', E, A, D, -, q⟩ := newO X hx hZ hown w wi wz eT (g := mkF m pc Ls st) rfl (hb hby hd) hc hl
  exact Go.of q (kk T' h' h.size X' e' E rfl A D)
theorem g_init (X : Stand p l e R s m args below meth c T locs cells slots) (hx : p.tables.exec = Jvm.exec) (hby : c.code = bs) (hZ : Z.Warmed39 s.vm) {i : Nat} (hown : s.vm.findClass own = some m.cls) (w1 : (Cond.methodLink own i Lib.objectInit).before a0 Z = true) (w2 : (Cond.instanceMethod Lib.objectInit).before a0 Z = true) (w3 : (Cond.code Lib.objectInit ⟨#[0xb1]⟩ 1 none).before a0 Z = true) (eT : T.heap = h) {a : Addr} {W : Nat} (hsz : Ls.size = c.maxLocals) (hd : decode bs pc = .ok (.invokespecial i, 3)) (hp : pc + 3 = pc') (hf : 1 ≤ R.frames) (hW : (st.map fun v => v.category).sum = W) (hl : W + 12 ≤ R.locals) (kk : ∀ T', Stand p l e R s m args below meth c T' locs cells slots → T'.heap = h → Go p.tables e below s Q C S (T'.setTop (mkF m pc' Ls st))) : Go p.tables e below s Q C S (T.setTop (mkF m pc Ls (.ref a :: st))) := by
  subst hp
  obtain ⟨T', X', e', q⟩ := initO X hx hZ hown w1 w2 w3 eT (g := mkF m pc Ls (.ref a :: st)) rfl hsz rfl (hb hby hd) hf (W := W) (by show 2 * 0 + _ ≤ _; rw [hW]; omega) hl
  exact Go.of q (kk T' X' e')
end Steps1
end Jvm.OwnKit
namespace Jvm.Pilot.@@N@@
open Jvm Jvm.ClassFile Sem Op Lib Jvm.Free Jvm.Stand Jvm.LawKit Jvm.RoadKit Jvm.OwnKit Bundle Jvm.Pilot.@@N@@.Jvm.D
theorem wi {a0 : Array Value} {Z : State} (hw : ∀ d ∈ tables_1, d.before a0 Z = true) {d : Jvm.Cond} (i : Nat) (h : tables_1[i]? = some d) : d.before a0 Z = true := hw d (List.mem_of_getElem? h)
theorem d1_0 : decode prog_39_method_3_code 0 = .ok (.iconst 1, 1) := by decide +kernel
theorem d1_1 : decode prog_39_method_3_code 1 = .ok (.istore_n 1, 1) := by decide +kernel
theorem d1_2 : decode prog_39_method_3_code 2 = .ok (.iload_n 1, 1) := by decide +kernel
theorem d1_3 : decode prog_39_method_3_code 3 = .ok (.aload_n 0, 1) := by decide +kernel
theorem d1_4 : decode prog_39_method_3_code 4 = .ok (.arraylength, 1) := by decide +kernel
theorem d1_5 : decode prog_39_method_3_code 5 = .ok (.if_icmp .ge 37, 3) := by decide +kernel
theorem d1_42 : decode prog_39_method_3_code 42 = .ok (.return_, 1) := by decide +kernel
theorem ef_rm1_0 (m : MethodId) (x0 : Addr) : entryFrame m #[(.ref x0)] 2 = mkF m 0 #[.val (.ref x0), .unset] [] := by first | (simp [entryFrame, mkF, argsToLocals, Value.category]; done) | rfl
theorem pn_trimwire_service_Factor : plainName "trimwire/service/Factor" = true := by first | (simp [plainName, overriddenIn]; done) | decide +kernel
set_option maxRecDepth 65536 in
set_option maxHeartbeats 40000000 in
theorem rm1_0 (l : Launch) (Z : State) (a0 : Array Value) (hw : ∀ d ∈ tables_1, d.before a0 Z = true) (x1 : Addr) (g1 : Nat → Int32) (h0 : Heap) (n0 : Nat) (Z0 : n0 ≤ h0.size) (P0 : ArF Z h0 x1 .int 0 (fun i => .int (g1 i))) :
    Con l Z (⟨"trimwire/service/Factor", "requireAscending", "([I)V"⟩ : MethodName) prog_39_method_3_code 2 none ({ frames := 0, cells := 0, slots := 0, locals := 0 } : Room) #[(.ref x1)] h0 (fun v h L => v = none ∧ Fr n0 L ∧ h = h0) := by
  refine meet (y := (⟨"trimwire/service/Factor", "requireAscending", "([I)V"⟩ : MethodName)) (Q := fun v h L => v = none ∧ Fr n0 L ∧ h = h0) (plainFor_of_name pn_trimwire_service_Factor) (fun m => ef_rm1_0 m x1) ?_
  intro p e s m below meth c T0 hx hby hml hZ hown hnm hret hlk X0 e0
  have N0 := Fr.nil n0
  refine g_iconst X0 hx hby d1_0 (pc' := 1) rfl (z := (1 : Int32)) rfl ?_
  refine g_istoreN X0 hx hby d1_1 (pc' := 2) rfl (L' := #[.val (.ref x1), .val (.int (1 : Int32))]) rfl ?_
  refine g_iloadN X0 hx hby d1_2 (pc' := 3) rfl rfl ?_
  refine g_aloadN X0 hx hby d1_3 (pc' := 4) rfl rfl rfl ?_
  refine Go.alen X0 hx hZ e0 P0 (hb hby d1_4) ?_
  show Go p.tables e below s _ _ _ (T0.setTop (mkF m 5 #[.val (.ref x1), .val (.int (1 : Int32))] [(.int (0 : Int32)), (.int (1 : Int32))]))
  have hc5 : ¬ ((1 : Int) < (0 : Int)) := by decide
  refine g_icmpYes X0 hx hby d1_5 (pc' := 42) (flt (show ¬ ((1 : Int32) < (0 : Int32)) from fun q => hc5 (Int32.lt_iff_toInt_lt.mp q))).2.1 (by decide) (by decide) ?_
  refine Go.retV X0 hx hlk hret (hb hby d1_42) rfl (by decide) (by decide) ?_
  exact ⟨rfl, N0, e0⟩
theorem ef_rm1_1 (m : MethodId) (x0 : Addr) : entryFrame m #[(.ref x0)] 2 = mkF m 0 #[.val (.ref x0), .unset] [] := by first | (simp [entryFrame, mkF, argsToLocals, Value.category]; done) | rfl
set_option maxRecDepth 65536 in
set_option maxHeartbeats 40000000 in
theorem rm1_1 (l : Launch) (Z : State) (a0 : Array Value) (hw : ∀ d ∈ tables_1, d.before a0 Z = true) (x1 : Addr) (g1 : Nat → Int32) (h0 : Heap) (n0 : Nat) (Z0 : n0 ≤ h0.size) (P0 : ArF Z h0 x1 .int 1 (fun i => .int (g1 i))) :
    Con l Z (⟨"trimwire/service/Factor", "requireAscending", "([I)V"⟩ : MethodName) prog_39_method_3_code 2 none ({ frames := 0, cells := 0, slots := 0, locals := 0 } : Room) #[(.ref x1)] h0 (fun v h L => v = none ∧ Fr n0 L ∧ h = h0) := by
  refine meet (y := (⟨"trimwire/service/Factor", "requireAscending", "([I)V"⟩ : MethodName)) (Q := fun v h L => v = none ∧ Fr n0 L ∧ h = h0) (plainFor_of_name pn_trimwire_service_Factor) (fun m => ef_rm1_1 m x1) ?_
  intro p e s m below meth c T0 hx hby hml hZ hown hnm hret hlk X0 e0
  have N0 := Fr.nil n0
  refine g_iconst X0 hx hby d1_0 (pc' := 1) rfl (z := (1 : Int32)) rfl ?_
  refine g_istoreN X0 hx hby d1_1 (pc' := 2) rfl (L' := #[.val (.ref x1), .val (.int (1 : Int32))]) rfl ?_
  refine g_iloadN X0 hx hby d1_2 (pc' := 3) rfl rfl ?_
  refine g_aloadN X0 hx hby d1_3 (pc' := 4) rfl rfl rfl ?_
  refine Go.alen X0 hx hZ e0 P0 (hb hby d1_4) ?_
  show Go p.tables e below s _ _ _ (T0.setTop (mkF m 5 #[.val (.ref x1), .val (.int (1 : Int32))] [(.int (1 : Int32)), (.int (1 : Int32))]))
  have hc5 : ¬ ((1 : Int) < (1 : Int)) := by decide
  refine g_icmpYes X0 hx hby d1_5 (pc' := 42) (flt (show ¬ ((1 : Int32) < (1 : Int32)) from fun q => hc5 (Int32.lt_iff_toInt_lt.mp q))).2.1 (by decide) (by decide) ?_
  refine Go.retV X0 hx hlk hret (hb hby d1_42) rfl (by decide) (by decide) ?_
  exact ⟨rfl, N0, e0⟩
theorem d1_8 : decode prog_39_method_3_code 8 = .ok (.aload_n 0, 1) := by decide +kernel
theorem d1_9 : decode prog_39_method_3_code 9 = .ok (.iload_n 1, 1) := by decide +kernel
theorem d1_10 : decode prog_39_method_3_code 10 = .ok (.iconst 1, 1) := by decide +kernel
theorem d1_11 : decode prog_39_method_3_code 11 = .ok (.isub, 1) := by decide +kernel
theorem d1_12 : decode prog_39_method_3_code 12 = .ok (.iaload, 1) := by decide +kernel
theorem d1_13 : decode prog_39_method_3_code 13 = .ok (.aload_n 0, 1) := by decide +kernel
theorem d1_14 : decode prog_39_method_3_code 14 = .ok (.iload_n 1, 1) := by decide +kernel
theorem d1_15 : decode prog_39_method_3_code 15 = .ok (.iaload, 1) := by decide +kernel
theorem d1_16 : decode prog_39_method_3_code 16 = .ok (.if_icmp .lt 20, 3) := by decide +kernel
theorem d1_36 : decode prog_39_method_3_code 36 = .ok (.iinc 1 1, 3) := by decide +kernel
theorem d1_39 : decode prog_39_method_3_code 39 = .ok (.goto (-37), 3) := by decide +kernel
theorem ef_rm1_2 (m : MethodId) (x0 : Addr) : entryFrame m #[(.ref x0)] 2 = mkF m 0 #[.val (.ref x0), .unset] [] := by first | (simp [entryFrame, mkF, argsToLocals, Value.category]; done) | rfl
set_option maxRecDepth 65536 in
set_option maxHeartbeats 40000000 in
theorem rm1_2 (l : Launch) (Z : State) (a0 : Array Value) (hw : ∀ d ∈ tables_1, d.before a0 Z = true) (x1 : Addr) (g1 : Nat → Int32) (h0 : Heap) (n0 : Nat) (Z0 : n0 ≤ h0.size) (P0 : ArF Z h0 x1 .int 2 (fun i => .int (g1 i))) (y0 : (g1 0).toInt < (g1 1).toInt) :
    Con l Z (⟨"trimwire/service/Factor", "requireAscending", "([I)V"⟩ : MethodName) prog_39_method_3_code 2 none ({ frames := 0, cells := 0, slots := 0, locals := 0 } : Room) #[(.ref x1)] h0 (fun v h L => v = none ∧ Fr n0 L ∧ h = h0) := by
  refine meet (y := (⟨"trimwire/service/Factor", "requireAscending", "([I)V"⟩ : MethodName)) (Q := fun v h L => v = none ∧ Fr n0 L ∧ h = h0) (plainFor_of_name pn_trimwire_service_Factor) (fun m => ef_rm1_2 m x1) ?_
  intro p e s m below meth c T0 hx hby hml hZ hown hnm hret hlk X0 e0
  have N0 := Fr.nil n0
  refine g_iconst X0 hx hby d1_0 (pc' := 1) rfl (z := (1 : Int32)) rfl ?_
  refine g_istoreN X0 hx hby d1_1 (pc' := 2) rfl (L' := #[.val (.ref x1), .val (.int (1 : Int32))]) rfl ?_
  refine g_iloadN X0 hx hby d1_2 (pc' := 3) rfl rfl ?_
  refine g_aloadN X0 hx hby d1_3 (pc' := 4) rfl rfl rfl ?_
  refine Go.alen X0 hx hZ e0 P0 (hb hby d1_4) ?_
  show Go p.tables e below s _ _ _ (T0.setTop (mkF m 5 #[.val (.ref x1), .val (.int (1 : Int32))] [(.int (2 : Int32)), (.int (1 : Int32))]))
  have hc5 : (1 : Int) < (2 : Int) := by decide
  refine g_icmpNo X0 hx hby d1_5 (pc' := 8) (tlt (show (1 : Int32) < (2 : Int32) from Int32.lt_iff_toInt_lt.mpr hc5)).2.1 rfl ?_
  refine g_aloadN X0 hx hby d1_8 (pc' := 9) rfl rfl rfl ?_
  refine g_iloadN X0 hx hby d1_9 (pc' := 10) rfl rfl ?_
  refine g_iconst X0 hx hby d1_10 (pc' := 11) rfl (z := (1 : Int32)) rfl ?_
  refine g_isub X0 hx hby d1_11 (pc' := 12) rfl (z := (0 : Int32)) rfl ?_
  refine Go.iaload X0 hx hZ e0 P0 (k := 0) rfl (by decide) (hb hby d1_12) ?_
  show Go p.tables e below s _ _ _ (T0.setTop (mkF m 13 #[.val (.ref x1), .val (.int (1 : Int32))] [(.int (g1 0))]))
  refine g_aloadN X0 hx hby d1_13 (pc' := 14) rfl rfl rfl ?_
  refine g_iloadN X0 hx hby d1_14 (pc' := 15) rfl rfl ?_
  refine Go.iaload X0 hx hZ e0 P0 (k := 1) rfl (by decide) (hb hby d1_15) ?_
  show Go p.tables e below s _ _ _ (T0.setTop (mkF m 16 #[.val (.ref x1), .val (.int (1 : Int32))] [(.int (g1 1)), (.int (g1 0))]))
  have hc16 : (g1 0).toInt < (g1 1).toInt := by omega
  refine g_icmpYes X0 hx hby d1_16 (pc' := 36) (tlt (show (g1 0) < (g1 1) from Int32.lt_iff_toInt_lt.mpr hc16)).1 (by decide) (by decide) ?_
  refine g_iinc X0 hx hby d1_36 (pc' := 39) rfl rfl (L' := #[.val (.ref x1), .val (.int (2 : Int32))]) rfl ?_
  refine g_goto X0 hx hby d1_39 (pc' := 2) (by decide) (by decide) ?_
  refine g_iloadN X0 hx hby d1_2 (pc' := 3) rfl rfl ?_
  refine g_aloadN X0 hx hby d1_3 (pc' := 4) rfl rfl rfl ?_
  refine Go.alen X0 hx hZ e0 P0 (hb hby d1_4) ?_
  show Go p.tables e below s _ _ _ (T0.setTop (mkF m 5 #[.val (.ref x1), .val (.int (2 : Int32))] [(.int (2 : Int32)), (.int (2 : Int32))]))
  have hc5 : ¬ ((2 : Int) < (2 : Int)) := by decide
  refine g_icmpYes X0 hx hby d1_5 (pc' := 42) (flt (show ¬ ((2 : Int32) < (2 : Int32)) from fun q => hc5 (Int32.lt_iff_toInt_lt.mp q))).2.1 (by decide) (by decide) ?_
  refine Go.retV X0 hx hlk hret (hb hby d1_42) rfl (by decide) (by decide) ?_
  exact ⟨rfl, N0, e0⟩
theorem ef_rm1_3 (m : MethodId) (x0 : Addr) : entryFrame m #[(.ref x0)] 2 = mkF m 0 #[.val (.ref x0), .unset] [] := by first | (simp [entryFrame, mkF, argsToLocals, Value.category]; done) | rfl
set_option maxRecDepth 65536 in
set_option maxHeartbeats 40000000 in
theorem rm1_3 (l : Launch) (Z : State) (a0 : Array Value) (hw : ∀ d ∈ tables_1, d.before a0 Z = true) (x1 : Addr) (g1 : Nat → Int32) (h0 : Heap) (n0 : Nat) (Z0 : n0 ≤ h0.size) (P0 : ArF Z h0 x1 .int 3 (fun i => .int (g1 i))) (y0 : (g1 0).toInt < (g1 1).toInt) (y1 : (g1 1).toInt < (g1 2).toInt) :
    Con l Z (⟨"trimwire/service/Factor", "requireAscending", "([I)V"⟩ : MethodName) prog_39_method_3_code 2 none ({ frames := 0, cells := 0, slots := 0, locals := 0 } : Room) #[(.ref x1)] h0 (fun v h L => v = none ∧ Fr n0 L ∧ h = h0) := by
  refine meet (y := (⟨"trimwire/service/Factor", "requireAscending", "([I)V"⟩ : MethodName)) (Q := fun v h L => v = none ∧ Fr n0 L ∧ h = h0) (plainFor_of_name pn_trimwire_service_Factor) (fun m => ef_rm1_3 m x1) ?_
  intro p e s m below meth c T0 hx hby hml hZ hown hnm hret hlk X0 e0
  have N0 := Fr.nil n0
  refine g_iconst X0 hx hby d1_0 (pc' := 1) rfl (z := (1 : Int32)) rfl ?_
  refine g_istoreN X0 hx hby d1_1 (pc' := 2) rfl (L' := #[.val (.ref x1), .val (.int (1 : Int32))]) rfl ?_
  refine g_iloadN X0 hx hby d1_2 (pc' := 3) rfl rfl ?_
  refine g_aloadN X0 hx hby d1_3 (pc' := 4) rfl rfl rfl ?_
  refine Go.alen X0 hx hZ e0 P0 (hb hby d1_4) ?_
  show Go p.tables e below s _ _ _ (T0.setTop (mkF m 5 #[.val (.ref x1), .val (.int (1 : Int32))] [(.int (3 : Int32)), (.int (1 : Int32))]))
  have hc5 : (1 : Int) < (3 : Int) := by decide
  refine g_icmpNo X0 hx hby d1_5 (pc' := 8) (tlt (show (1 : Int32) < (3 : Int32) from Int32.lt_iff_toInt_lt.mpr hc5)).2.1 rfl ?_
  refine g_aloadN X0 hx hby d1_8 (pc' := 9) rfl rfl rfl ?_
  refine g_iloadN X0 hx hby d1_9 (pc' := 10) rfl rfl ?_
  refine g_iconst X0 hx hby d1_10 (pc' := 11) rfl (z := (1 : Int32)) rfl ?_
  refine g_isub X0 hx hby d1_11 (pc' := 12) rfl (z := (0 : Int32)) rfl ?_
  refine Go.iaload X0 hx hZ e0 P0 (k := 0) rfl (by decide) (hb hby d1_12) ?_
  show Go p.tables e below s _ _ _ (T0.setTop (mkF m 13 #[.val (.ref x1), .val (.int (1 : Int32))] [(.int (g1 0))]))
  refine g_aloadN X0 hx hby d1_13 (pc' := 14) rfl rfl rfl ?_
  refine g_iloadN X0 hx hby d1_14 (pc' := 15) rfl rfl ?_
  refine Go.iaload X0 hx hZ e0 P0 (k := 1) rfl (by decide) (hb hby d1_15) ?_
  show Go p.tables e below s _ _ _ (T0.setTop (mkF m 16 #[.val (.ref x1), .val (.int (1 : Int32))] [(.int (g1 1)), (.int (g1 0))]))
  have hc16 : (g1 0).toInt < (g1 1).toInt := by omega
  refine g_icmpYes X0 hx hby d1_16 (pc' := 36) (tlt (show (g1 0) < (g1 1) from Int32.lt_iff_toInt_lt.mpr hc16)).1 (by decide) (by decide) ?_
  refine g_iinc X0 hx hby d1_36 (pc' := 39) rfl rfl (L' := #[.val (.ref x1), .val (.int (2 : Int32))]) rfl ?_
  refine g_goto X0 hx hby d1_39 (pc' := 2) (by decide) (by decide) ?_
  refine g_iloadN X0 hx hby d1_2 (pc' := 3) rfl rfl ?_
  refine g_aloadN X0 hx hby d1_3 (pc' := 4) rfl rfl rfl ?_
  refine Go.alen X0 hx hZ e0 P0 (hb hby d1_4) ?_
  show Go p.tables e below s _ _ _ (T0.setTop (mkF m 5 #[.val (.ref x1), .val (.int (2 : Int32))] [(.int (3 : Int32)), (.int (2 : Int32))]))
  have hc5 : (2 : Int) < (3 : Int) := by decide
  refine g_icmpNo X0 hx hby d1_5 (pc' := 8) (tlt (show (2 : Int32) < (3 : Int32) from Int32.lt_iff_toInt_lt.mpr hc5)).2.1 rfl ?_
  refine g_aloadN X0 hx hby d1_8 (pc' := 9) rfl rfl rfl ?_
  refine g_iloadN X0 hx hby d1_9 (pc' := 10) rfl rfl ?_
  refine g_iconst X0 hx hby d1_10 (pc' := 11) rfl (z := (1 : Int32)) rfl ?_
  refine g_isub X0 hx hby d1_11 (pc' := 12) rfl (z := (1 : Int32)) rfl ?_
  refine Go.iaload X0 hx hZ e0 P0 (k := 1) rfl (by decide) (hb hby d1_12) ?_
  show Go p.tables e below s _ _ _ (T0.setTop (mkF m 13 #[.val (.ref x1), .val (.int (2 : Int32))] [(.int (g1 1))]))
  refine g_aloadN X0 hx hby d1_13 (pc' := 14) rfl rfl rfl ?_
  refine g_iloadN X0 hx hby d1_14 (pc' := 15) rfl rfl ?_
  refine Go.iaload X0 hx hZ e0 P0 (k := 2) rfl (by decide) (hb hby d1_15) ?_
  show Go p.tables e below s _ _ _ (T0.setTop (mkF m 16 #[.val (.ref x1), .val (.int (2 : Int32))] [(.int (g1 2)), (.int (g1 1))]))
  have hc16 : (g1 1).toInt < (g1 2).toInt := by omega
  refine g_icmpYes X0 hx hby d1_16 (pc' := 36) (tlt (show (g1 1) < (g1 2) from Int32.lt_iff_toInt_lt.mpr hc16)).1 (by decide) (by decide) ?_
  refine g_iinc X0 hx hby d1_36 (pc' := 39) rfl rfl (L' := #[.val (.ref x1), .val (.int (3 : Int32))]) rfl ?_
  refine g_goto X0 hx hby d1_39 (pc' := 2) (by decide) (by decide) ?_
  refine g_iloadN X0 hx hby d1_2 (pc' := 3) rfl rfl ?_
  refine g_aloadN X0 hx hby d1_3 (pc' := 4) rfl rfl rfl ?_
  refine Go.alen X0 hx hZ e0 P0 (hb hby d1_4) ?_
  show Go p.tables e below s _ _ _ (T0.setTop (mkF m 5 #[.val (.ref x1), .val (.int (3 : Int32))] [(.int (3 : Int32)), (.int (3 : Int32))]))
  have hc5 : ¬ ((3 : Int) < (3 : Int)) := by decide
  refine g_icmpYes X0 hx hby d1_5 (pc' := 42) (flt (show ¬ ((3 : Int32) < (3 : Int32)) from fun q => hc5 (Int32.lt_iff_toInt_lt.mp q))).2.1 (by decide) (by decide) ?_
  refine Go.retV X0 hx hlk hret (hb hby d1_42) rfl (by decide) (by decide) ?_
  exact ⟨rfl, N0, e0⟩
theorem ef_rm1_4 (m : MethodId) (x0 : Addr) : entryFrame m #[(.ref x0)] 2 = mkF m 0 #[.val (.ref x0), .unset] [] := by first | (simp [entryFrame, mkF, argsToLocals, Value.category]; done) | rfl
set_option maxRecDepth 65536 in
set_option maxHeartbeats 40000000 in
theorem rm1_4 (l : Launch) (Z : State) (a0 : Array Value) (hw : ∀ d ∈ tables_1, d.before a0 Z = true) (x1 : Addr) (g1 : Nat → Int32) (h0 : Heap) (n0 : Nat) (Z0 : n0 ≤ h0.size) (P0 : ArF Z h0 x1 .int 4 (fun i => .int (g1 i))) (y0 : (g1 0).toInt < (g1 1).toInt) (y1 : (g1 1).toInt < (g1 2).toInt) (y2 : (g1 2).toInt < (g1 3).toInt) :
    Con l Z (⟨"trimwire/service/Factor", "requireAscending", "([I)V"⟩ : MethodName) prog_39_method_3_code 2 none ({ frames := 0, cells := 0, slots := 0, locals := 0 } : Room) #[(.ref x1)] h0 (fun v h L => v = none ∧ Fr n0 L ∧ h = h0) := by
  refine meet (y := (⟨"trimwire/service/Factor", "requireAscending", "([I)V"⟩ : MethodName)) (Q := fun v h L => v = none ∧ Fr n0 L ∧ h = h0) (plainFor_of_name pn_trimwire_service_Factor) (fun m => ef_rm1_4 m x1) ?_
  intro p e s m below meth c T0 hx hby hml hZ hown hnm hret hlk X0 e0
  have N0 := Fr.nil n0
  refine g_iconst X0 hx hby d1_0 (pc' := 1) rfl (z := (1 : Int32)) rfl ?_
  refine g_istoreN X0 hx hby d1_1 (pc' := 2) rfl (L' := #[.val (.ref x1), .val (.int (1 : Int32))]) rfl ?_
  refine g_iloadN X0 hx hby d1_2 (pc' := 3) rfl rfl ?_
  refine g_aloadN X0 hx hby d1_3 (pc' := 4) rfl rfl rfl ?_
  refine Go.alen X0 hx hZ e0 P0 (hb hby d1_4) ?_
  show Go p.tables e below s _ _ _ (T0.setTop (mkF m 5 #[.val (.ref x1), .val (.int (1 : Int32))] [(.int (4 : Int32)), (.int (1 : Int32))]))
  have hc5 : (1 : Int) < (4 : Int) := by decide
  refine g_icmpNo X0 hx hby d1_5 (pc' := 8) (tlt (show (1 : Int32) < (4 : Int32) from Int32.lt_iff_toInt_lt.mpr hc5)).2.1 rfl ?_
  refine g_aloadN X0 hx hby d1_8 (pc' := 9) rfl rfl rfl ?_
  refine g_iloadN X0 hx hby d1_9 (pc' := 10) rfl rfl ?_
  refine g_iconst X0 hx hby d1_10 (pc' := 11) rfl (z := (1 : Int32)) rfl ?_
  refine g_isub X0 hx hby d1_11 (pc' := 12) rfl (z := (0 : Int32)) rfl ?_
  refine Go.iaload X0 hx hZ e0 P0 (k := 0) rfl (by decide) (hb hby d1_12) ?_
  show Go p.tables e below s _ _ _ (T0.setTop (mkF m 13 #[.val (.ref x1), .val (.int (1 : Int32))] [(.int (g1 0))]))
  refine g_aloadN X0 hx hby d1_13 (pc' := 14) rfl rfl rfl ?_
  refine g_iloadN X0 hx hby d1_14 (pc' := 15) rfl rfl ?_
  refine Go.iaload X0 hx hZ e0 P0 (k := 1) rfl (by decide) (hb hby d1_15) ?_
  show Go p.tables e below s _ _ _ (T0.setTop (mkF m 16 #[.val (.ref x1), .val (.int (1 : Int32))] [(.int (g1 1)), (.int (g1 0))]))
  have hc16 : (g1 0).toInt < (g1 1).toInt := by omega
  refine g_icmpYes X0 hx hby d1_16 (pc' := 36) (tlt (show (g1 0) < (g1 1) from Int32.lt_iff_toInt_lt.mpr hc16)).1 (by decide) (by decide) ?_
  refine g_iinc X0 hx hby d1_36 (pc' := 39) rfl rfl (L' := #[.val (.ref x1), .val (.int (2 : Int32))]) rfl ?_
  refine g_goto X0 hx hby d1_39 (pc' := 2) (by decide) (by decide) ?_
  refine g_iloadN X0 hx hby d1_2 (pc' := 3) rfl rfl ?_
  refine g_aloadN X0 hx hby d1_3 (pc' := 4) rfl rfl rfl ?_
  refine Go.alen X0 hx hZ e0 P0 (hb hby d1_4) ?_
  show Go p.tables e below s _ _ _ (T0.setTop (mkF m 5 #[.val (.ref x1), .val (.int (2 : Int32))] [(.int (4 : Int32)), (.int (2 : Int32))]))
  have hc5 : (2 : Int) < (4 : Int) := by decide
  refine g_icmpNo X0 hx hby d1_5 (pc' := 8) (tlt (show (2 : Int32) < (4 : Int32) from Int32.lt_iff_toInt_lt.mpr hc5)).2.1 rfl ?_
  refine g_aloadN X0 hx hby d1_8 (pc' := 9) rfl rfl rfl ?_
  refine g_iloadN X0 hx hby d1_9 (pc' := 10) rfl rfl ?_
  refine g_iconst X0 hx hby d1_10 (pc' := 11) rfl (z := (1 : Int32)) rfl ?_
  refine g_isub X0 hx hby d1_11 (pc' := 12) rfl (z := (1 : Int32)) rfl ?_
  refine Go.iaload X0 hx hZ e0 P0 (k := 1) rfl (by decide) (hb hby d1_12) ?_
  show Go p.tables e below s _ _ _ (T0.setTop (mkF m 13 #[.val (.ref x1), .val (.int (2 : Int32))] [(.int (g1 1))]))
  refine g_aloadN X0 hx hby d1_13 (pc' := 14) rfl rfl rfl ?_
  refine g_iloadN X0 hx hby d1_14 (pc' := 15) rfl rfl ?_
  refine Go.iaload X0 hx hZ e0 P0 (k := 2) rfl (by decide) (hb hby d1_15) ?_
  show Go p.tables e below s _ _ _ (T0.setTop (mkF m 16 #[.val (.ref x1), .val (.int (2 : Int32))] [(.int (g1 2)), (.int (g1 1))]))
  have hc16 : (g1 1).toInt < (g1 2).toInt := by omega
  refine g_icmpYes X0 hx hby d1_16 (pc' := 36) (tlt (show (g1 1) < (g1 2) from Int32.lt_iff_toInt_lt.mpr hc16)).1 (by decide) (by decide) ?_
  refine g_iinc X0 hx hby d1_36 (pc' := 39) rfl rfl (L' := #[.val (.ref x1), .val (.int (3 : Int32))]) rfl ?_
  refine g_goto X0 hx hby d1_39 (pc' := 2) (by decide) (by decide) ?_
  refine g_iloadN X0 hx hby d1_2 (pc' := 3) rfl rfl ?_
  refine g_aloadN X0 hx hby d1_3 (pc' := 4) rfl rfl rfl ?_
  refine Go.alen X0 hx hZ e0 P0 (hb hby d1_4) ?_
  show Go p.tables e below s _ _ _ (T0.setTop (mkF m 5 #[.val (.ref x1), .val (.int (3 : Int32))] [(.int (4 : Int32)), (.int (3 : Int32))]))
  have hc5 : (3 : Int) < (4 : Int) := by decide
  refine g_icmpNo X0 hx hby d1_5 (pc' := 8) (tlt (show (3 : Int32) < (4 : Int32) from Int32.lt_iff_toInt_lt.mpr hc5)).2.1 rfl ?_
  refine g_aloadN X0 hx hby d1_8 (pc' := 9) rfl rfl rfl ?_
  refine g_iloadN X0 hx hby d1_9 (pc' := 10) rfl rfl ?_
  refine g_iconst X0 hx hby d1_10 (pc' := 11) rfl (z := (1 : Int32)) rfl ?_
  refine g_isub X0 hx hby d1_11 (pc' := 12) rfl (z := (2 : Int32)) rfl ?_
  refine Go.iaload X0 hx hZ e0 P0 (k := 2) rfl (by decide) (hb hby d1_12) ?_
  show Go p.tables e below s _ _ _ (T0.setTop (mkF m 13 #[.val (.ref x1), .val (.int (3 : Int32))] [(.int (g1 2))]))
  refine g_aloadN X0 hx hby d1_13 (pc' := 14) rfl rfl rfl ?_
  refine g_iloadN X0 hx hby d1_14 (pc' := 15) rfl rfl ?_
  refine Go.iaload X0 hx hZ e0 P0 (k := 3) rfl (by decide) (hb hby d1_15) ?_
  show Go p.tables e below s _ _ _ (T0.setTop (mkF m 16 #[.val (.ref x1), .val (.int (3 : Int32))] [(.int (g1 3)), (.int (g1 2))]))
  have hc16 : (g1 2).toInt < (g1 3).toInt := by omega
  refine g_icmpYes X0 hx hby d1_16 (pc' := 36) (tlt (show (g1 2) < (g1 3) from Int32.lt_iff_toInt_lt.mpr hc16)).1 (by decide) (by decide) ?_
  refine g_iinc X0 hx hby d1_36 (pc' := 39) rfl rfl (L' := #[.val (.ref x1), .val (.int (4 : Int32))]) rfl ?_
  refine g_goto X0 hx hby d1_39 (pc' := 2) (by decide) (by decide) ?_
  refine g_iloadN X0 hx hby d1_2 (pc' := 3) rfl rfl ?_
  refine g_aloadN X0 hx hby d1_3 (pc' := 4) rfl rfl rfl ?_
  refine Go.alen X0 hx hZ e0 P0 (hb hby d1_4) ?_
  show Go p.tables e below s _ _ _ (T0.setTop (mkF m 5 #[.val (.ref x1), .val (.int (4 : Int32))] [(.int (4 : Int32)), (.int (4 : Int32))]))
  have hc5 : ¬ ((4 : Int) < (4 : Int)) := by decide
  refine g_icmpYes X0 hx hby d1_5 (pc' := 42) (flt (show ¬ ((4 : Int32) < (4 : Int32)) from fun q => hc5 (Int32.lt_iff_toInt_lt.mp q))).2.1 (by decide) (by decide) ?_
  refine Go.retV X0 hx hlk hret (hb hby d1_42) rfl (by decide) (by decide) ?_
  exact ⟨rfl, N0, e0⟩
theorem pd_ayIzV : parseMethodDescriptor "([I)V" = some ⟨[(.array .int)], none⟩ := by decide +kernel
theorem ef_rm0 (m : MethodId) (x0 : Int32) (x1 : Int64) (x2 : Int64) (x3 : Int64) (x4 : Int32) : entryFrame m #[(.int x0), (.long x1), (.long x2), (.long x3), (.int x4)] maxLocals = mkF m 0 #[.val (.int x0), .val (.long x1), .second, .val (.long x2), .second, .val (.long x3), .second, .val (.int x4), .unset, .unset, .unset, .unset, .unset, .unset, .unset, .unset, .unset, .unset, .unset, .unset, .unset] [] := by first | (simp [entryFrame, mkF, argsToLocals, Value.category, maxLocals]; done) | rfl
theorem pn_trimwire_service_FactorRequireAscendingPinLaw : plainName "trimwire/service/FactorRequireAscendingPinLaw" = true := by first | (simp [plainName, overriddenIn]; done) | decide +kernel
set_option maxRecDepth 65536 in
set_option maxHeartbeats 40000000 in
theorem rm0 (l : Launch) (Z : State) (a0 : Array Value) (hw : ∀ d ∈ tables_1, d.before a0 Z = true) (ws : List Jvm.Cond) (p1 : Int32) (q1 q2 q3 : Int64) (p2 : Int32) (h0 : Heap) (n0 : Nat) (Z0 : n0 ≤ h0.size)  :
    MetFree l x (head1 (Jvm.Cond.code x code maxLocals ret :: ws) room_1) (fun a U => a = #[(.int p1), (.long q1), (.long q2), (.long q3), (.int p2)] ∧ Z.Warmed39 U.vm ∧ U.heap = h0) (fun _ _ _ _ _ => True) (fun _ U o U' => ∃ v L, o = .returned v ∧ (fun v h L => v = some (.int 1) ∧ Fr n0 L) v U'.heap L ∧ FrameEnd U o U' L room_1.cells room_1.slots) := by
  refine meet (y := x) (Q := fun v h L => v = some (.int 1) ∧ Fr n0 L) (plainFor_of_name pn_trimwire_service_FactorRequireAscendingPinLaw) (fun m => ef_rm0 m p1 q1 q2 q3 p2) ?_
  intro p e s m below meth c T0 hx hby hml hZ hown hnm hret hlk X0 e0
  have N0 := Fr.nil n0
  have hml : c.maxLocals = 21 := hml
  refine g_iload X0 hx hby at_0 (pc' := 2) rfl rfl ?_
  refine g_ldcI X0 hx hby hZ hown (wi hw 0 rfl) at_2 (pc' := 4) rfl ?_
  refine g_iand X0 hx hby at_4 (pc' := 5) rfl rfl ?_
  refine g_iconst X0 hx hby at_5 (pc' := 6) rfl (z := (5 : Int32)) rfl ?_
  refine g_irem X0 hx hby at_6 (pc' := 7) rfl (by decide) rfl ?_
  show Go p.tables e below s _ _ _ (T0.setTop (mkF m 7 #[.val (.int p1), .val (.long q1), .second, .val (.long q2), .second, .val (.long q3), .second, .val (.int p2), .unset, .unset, .unset, .unset, .unset, .unset, .unset, .unset, .unset, .unset, .unset, .unset, .unset] [(.int ((p2 &&& (2147483647 : Int32)) % (5 : Int32)))]))
  generalize hv1 : ((p2 &&& (2147483647 : Int32)) % (5 : Int32)) = v1
  refine g_istore X0 hx hby at_7 (pc' := 9) rfl (L' := #[.val (.int p1), .val (.long q1), .second, .val (.long q2), .second, .val (.long q3), .second, .val (.int p2), .val (.int v1), .unset, .unset, .unset, .unset, .unset, .unset, .unset, .unset, .unset, .unset, .unset, .unset]) rfl ?_
  refine g_iloadN X0 hx hby at_9 (pc' := 10) rfl rfl ?_
  refine g_i2l X0 hx hby at_10 (pc' := 11) rfl rfl ?_
  show Go p.tables e below s _ _ _ (T0.setTop (mkF m 11 #[.val (.int p1), .val (.long q1), .second, .val (.long q2), .second, .val (.long q3), .second, .val (.int p2), .val (.int v1), .unset, .unset, .unset, .unset, .unset, .unset, .unset, .unset, .unset, .unset, .unset, .unset] [(.long (p1.toInt64))]))
  generalize hv2 : (p1.toInt64) = v2
  refine g_lstore X0 hx hby at_11 (pc' := 13) rfl (L' := #[.val (.int p1), .val (.long q1), .second, .val (.long q2), .second, .val (.long q3), .second, .val (.int p2), .val (.int v1), .val (.long v2), .second, .unset, .unset, .unset, .unset, .unset, .unset, .unset, .unset, .unset, .unset]) rfl ?_
  refine g_lload X0 hx hby at_13 (pc' := 15) rfl rfl ?_
  refine Go.of (fun _ k => XS.lconst X0.here hx rfl (hb hby at_15) k) ?_
  show Go p.tables e below s _ _ _ (T0.setTop (mkF m 16 #[.val (.int p1), .val (.long q1), .second, .val (.long q2), .second, .val (.long q3), .second, .val (.int p2), .val (.int v1), .val (.long v2), .second, .unset, .unset, .unset, .unset, .unset, .unset, .unset, .unset, .unset, .unset] [(.long (1 : Int64)), (.long v2)]))
  refine g_ladd X0 hx hby at_16 (pc' := 17) rfl rfl ?_
  refine g_lloadN X0 hx hby at_17 (pc' := 18) rfl rfl ?_
  refine g_ldcL X0 hx hby hZ hown (wi hw 1 rfl) at_18 (pc' := 21) rfl ?_
  refine g_land X0 hx hby at_21 (pc' := 22) rfl rfl ?_
  refine g_ladd X0 hx hby at_22 (pc' := 23) rfl rfl ?_
  show Go p.tables e below s _ _ _ (T0.setTop (mkF m 23 #[.val (.int p1), .val (.long q1), .second, .val (.long q2), .second, .val (.long q3), .second, .val (.int p2), .val (.int v1), .val (.long v2), .second, .unset, .unset, .unset, .unset, .unset, .unset, .unset, .unset, .unset, .unset] [(.long ((v2 + (1 : Int64)) + (q1 &&& (4294967295 : Int64))))]))
  generalize hv3 : ((v2 + (1 : Int64)) + (q1 &&& (4294967295 : Int64))) = v3
  refine g_lstore X0 hx hby at_23 (pc' := 25) rfl (L' := #[.val (.int p1), .val (.long q1), .second, .val (.long q2), .second, .val (.long q3), .second, .val (.int p2), .val (.int v1), .val (.long v2), .second, .val (.long v3), .second, .unset, .unset, .unset, .unset, .unset, .unset, .unset, .unset]) rfl ?_
  refine g_lload X0 hx hby at_25 (pc' := 27) rfl rfl ?_
  refine Go.of (fun _ k => XS.lconst X0.here hx rfl (hb hby at_27) k) ?_
  show Go p.tables e below s _ _ _ (T0.setTop (mkF m 28 #[.val (.int p1), .val (.long q1), .second, .val (.long q2), .second, .val (.long q3), .second, .val (.int p2), .val (.int v1), .val (.long v2), .second, .val (.long v3), .second, .unset, .unset, .unset, .unset, .unset, .unset, .unset, .unset] [(.long (1 : Int64)), (.long v3)]))
  refine g_ladd X0 hx hby at_28 (pc' := 29) rfl rfl ?_
  refine g_lloadN X0 hx hby at_29 (pc' := 30) rfl rfl ?_
  refine g_ldcL X0 hx hby hZ hown (wi hw 1 rfl) at_30 (pc' := 33) rfl ?_
  refine g_land X0 hx hby at_33 (pc' := 34) rfl rfl ?_
  refine g_ladd X0 hx hby at_34 (pc' := 35) rfl rfl ?_
  show Go p.tables e below s _ _ _ (T0.setTop (mkF m 35 #[.val (.int p1), .val (.long q1), .second, .val (.long q2), .second, .val (.long q3), .second, .val (.int p2), .val (.int v1), .val (.long v2), .second, .val (.long v3), .second, .unset, .unset, .unset, .unset, .unset, .unset, .unset, .unset] [(.long ((v3 + (1 : Int64)) + (q2 &&& (4294967295 : Int64))))]))
  generalize hv4 : ((v3 + (1 : Int64)) + (q2 &&& (4294967295 : Int64))) = v4
  refine g_lstore X0 hx hby at_35 (pc' := 37) rfl (L' := #[.val (.int p1), .val (.long q1), .second, .val (.long q2), .second, .val (.long q3), .second, .val (.int p2), .val (.int v1), .val (.long v2), .second, .val (.long v3), .second, .val (.long v4), .second, .unset, .unset, .unset, .unset, .unset, .unset]) rfl ?_
  refine g_lload X0 hx hby at_37 (pc' := 39) rfl rfl ?_
  refine Go.of (fun _ k => XS.lconst X0.here hx rfl (hb hby at_39) k) ?_
  show Go p.tables e below s _ _ _ (T0.setTop (mkF m 40 #[.val (.int p1), .val (.long q1), .second, .val (.long q2), .second, .val (.long q3), .second, .val (.int p2), .val (.int v1), .val (.long v2), .second, .val (.long v3), .second, .val (.long v4), .second, .unset, .unset, .unset, .unset, .unset, .unset] [(.long (1 : Int64)), (.long v4)]))
  refine g_ladd X0 hx hby at_40 (pc' := 41) rfl rfl ?_
  refine g_lload X0 hx hby at_41 (pc' := 43) rfl rfl ?_
  refine g_ldcL X0 hx hby hZ hown (wi hw 1 rfl) at_43 (pc' := 46) rfl ?_
  refine g_land X0 hx hby at_46 (pc' := 47) rfl rfl ?_
  refine g_ladd X0 hx hby at_47 (pc' := 48) rfl rfl ?_
  show Go p.tables e below s _ _ _ (T0.setTop (mkF m 48 #[.val (.int p1), .val (.long q1), .second, .val (.long q2), .second, .val (.long q3), .second, .val (.int p2), .val (.int v1), .val (.long v2), .second, .val (.long v3), .second, .val (.long v4), .second, .unset, .unset, .unset, .unset, .unset, .unset] [(.long ((v4 + (1 : Int64)) + (q3 &&& (4294967295 : Int64))))]))
  generalize hv5 : ((v4 + (1 : Int64)) + (q3 &&& (4294967295 : Int64))) = v5
  refine g_lstore X0 hx hby at_48 (pc' := 50) rfl (L' := #[.val (.int p1), .val (.long q1), .second, .val (.long q2), .second, .val (.long q3), .second, .val (.int p2), .val (.int v1), .val (.long v2), .second, .val (.long v3), .second, .val (.long v4), .second, .val (.long v5), .second, .unset, .unset, .unset, .unset]) rfl ?_
  have ex0 : v2.toInt = p1.toInt := by rw [← hv2]; exact c_i2l _
  have r0 := rng32 p1
  have ex1 : v2.toInt < v3.toInt ∧ v3.toInt ≤ v2.toInt + 4294967296 := by rw [← hv3]; have : (((v2 + (1 : Int64)) + (q1 &&& (4294967295 : Int64))).toInt - ((v2 + (1 : Int64)).toInt + (q1 &&& (4294967295 : Int64)).toInt)) % 18446744073709551616 = 0 := c_ladd _ _; have : -9223372036854775808 ≤ ((v2 + (1 : Int64)) + (q1 &&& (4294967295 : Int64))).toInt ∧ ((v2 + (1 : Int64)) + (q1 &&& (4294967295 : Int64))).toInt < 9223372036854775808 := rng64 _; have : ((v2 + (1 : Int64)).toInt - (v2.toInt + (1))) % 18446744073709551616 = 0 := c_ladd _ _; have : -9223372036854775808 ≤ (v2 + (1 : Int64)).toInt ∧ (v2 + (1 : Int64)).toInt < 9223372036854775808 := rng64 _; have : -9223372036854775808 ≤ v2.toInt ∧ v2.toInt < 9223372036854775808 := rng64 _; have : (q1 &&& (4294967295 : Int64)).toInt = q1.toInt % 4294967296 := c_maskL _ _ 32 (by decide) (by decide); have : -9223372036854775808 ≤ (q1 &&& (4294967295 : Int64)).toInt ∧ (q1 &&& (4294967295 : Int64)).toInt < 9223372036854775808 := rng64 _; have : -9223372036854775808 ≤ q1.toInt ∧ q1.toInt < 9223372036854775808 := rng64 _; omega
  have ex2 : v3.toInt < v4.toInt ∧ v4.toInt ≤ v3.toInt + 4294967296 := by rw [← hv4]; have : (((v3 + (1 : Int64)) + (q2 &&& (4294967295 : Int64))).toInt - ((v3 + (1 : Int64)).toInt + (q2 &&& (4294967295 : Int64)).toInt)) % 18446744073709551616 = 0 := c_ladd _ _; have : -9223372036854775808 ≤ ((v3 + (1 : Int64)) + (q2 &&& (4294967295 : Int64))).toInt ∧ ((v3 + (1 : Int64)) + (q2 &&& (4294967295 : Int64))).toInt < 9223372036854775808 := rng64 _; have : ((v3 + (1 : Int64)).toInt - (v3.toInt + (1))) % 18446744073709551616 = 0 := c_ladd _ _; have : -9223372036854775808 ≤ (v3 + (1 : Int64)).toInt ∧ (v3 + (1 : Int64)).toInt < 9223372036854775808 := rng64 _; have : -9223372036854775808 ≤ v3.toInt ∧ v3.toInt < 9223372036854775808 := rng64 _; have : (q2 &&& (4294967295 : Int64)).toInt = q2.toInt % 4294967296 := c_maskL _ _ 32 (by decide) (by decide); have : -9223372036854775808 ≤ (q2 &&& (4294967295 : Int64)).toInt ∧ (q2 &&& (4294967295 : Int64)).toInt < 9223372036854775808 := rng64 _; have : -9223372036854775808 ≤ q2.toInt ∧ q2.toInt < 9223372036854775808 := rng64 _; omega
  have ex3 : v4.toInt < v5.toInt ∧ v5.toInt ≤ v4.toInt + 4294967296 := by rw [← hv5]; have : (((v4 + (1 : Int64)) + (q3 &&& (4294967295 : Int64))).toInt - ((v4 + (1 : Int64)).toInt + (q3 &&& (4294967295 : Int64)).toInt)) % 18446744073709551616 = 0 := c_ladd _ _; have : -9223372036854775808 ≤ ((v4 + (1 : Int64)) + (q3 &&& (4294967295 : Int64))).toInt ∧ ((v4 + (1 : Int64)) + (q3 &&& (4294967295 : Int64))).toInt < 9223372036854775808 := rng64 _; have : ((v4 + (1 : Int64)).toInt - (v4.toInt + (1))) % 18446744073709551616 = 0 := c_ladd _ _; have : -9223372036854775808 ≤ (v4 + (1 : Int64)).toInt ∧ (v4 + (1 : Int64)).toInt < 9223372036854775808 := rng64 _; have : -9223372036854775808 ≤ v4.toInt ∧ v4.toInt < 9223372036854775808 := rng64 _; have : (q3 &&& (4294967295 : Int64)).toInt = q3.toInt % 4294967296 := c_maskL _ _ 32 (by decide) (by decide); have : -9223372036854775808 ≤ (q3 &&& (4294967295 : Int64)).toInt ∧ (q3 &&& (4294967295 : Int64)).toInt < 9223372036854775808 := rng64 _; have : -9223372036854775808 ≤ q3.toInt ∧ q3.toInt < 9223372036854775808 := rng64 _; omega
  have hn : 0 ≤ v1.toInt ∧ v1.toInt ≤ 4 := by rw [← hv1]; have : (0 ≤ (p2 &&& (2147483647 : Int32)).toInt → ((p2 &&& (2147483647 : Int32)) % (5 : Int32)).toInt = (p2 &&& (2147483647 : Int32)).toInt % 5) ∧ ((p2 &&& (2147483647 : Int32)).toInt < 0 → ((p2 &&& (2147483647 : Int32)) % (5 : Int32)).toInt = -((-(p2 &&& (2147483647 : Int32)).toInt) % 5)) := c_irem _ _ 5 rfl; have : -2147483648 ≤ ((p2 &&& (2147483647 : Int32)) % (5 : Int32)).toInt ∧ ((p2 &&& (2147483647 : Int32)) % (5 : Int32)).toInt < 2147483648 := rng32 _; have : (p2 &&& (2147483647 : Int32)).toInt = p2.toInt % 2147483648 := c_mask _ _ 31 (by decide) (by decide); have : -2147483648 ≤ (p2 &&& (2147483647 : Int32)).toInt ∧ (p2 &&& (2147483647 : Int32)).toInt < 2147483648 := rng32 _; have : -2147483648 ≤ p2.toInt ∧ p2.toInt < 2147483648 := rng32 _; omega
  have hcs : v1 = (0 : Int32) ∨ v1 = (1 : Int32) ∨ v1 = (2 : Int32) ∨ v1 = (3 : Int32) ∨ v1 = (4 : Int32) := by
    have : v1.toInt = 0 ∨ v1.toInt = 1 ∨ v1.toInt = 2 ∨ v1.toInt = 3 ∨ v1.toInt = 4 := by omega
    rcases this with h | h | h | h | h
    · exact Or.inl (Int32.toInt_inj.mp h)
    · exact Or.inr (Or.inl (Int32.toInt_inj.mp h))
    · exact Or.inr (Or.inr (Or.inl (Int32.toInt_inj.mp h)))
    · exact Or.inr (Or.inr (Or.inr (Or.inl (Int32.toInt_inj.mp h))))
    · exact Or.inr (Or.inr (Or.inr (Or.inr ((Int32.toInt_inj.mp h)))))
  clear hv1
  rcases hcs with rfl | rfl | rfl | rfl | rfl
  · show Go p.tables e below s _ _ _ (T0.setTop (mkF m 50 #[.val (.int p1), .val (.long q1), .second, .val (.long q2), .second, .val (.long q3), .second, .val (.int p2), .val (.int (0 : Int32)), .val (.long v2), .second, .val (.long v3), .second, .val (.long v4), .second, .val (.long v5), .second, .unset, .unset, .unset, .unset] []))
    refine g_iload X0 hx hby at_50 (pc' := 52) rfl rfl ?_
    refine g_iconst X0 hx hby at_52 (pc' := 53) rfl (z := (4 : Int32)) rfl ?_
    have hc53 : ¬ ((0 : Int) = (4 : Int)) := by decide
    refine g_icmpYes X0 hx hby at_53 (pc' := 61) (feq (show ¬ ((0 : Int32) = (4 : Int32)) from fun q => hc53 (congrArg Int32.toInt q))).2 (by decide) (by decide) ?_
    refine g_iload X0 hx hby at_61 (pc' := 63) rfl rfl ?_
    refine g_iconst X0 hx hby at_63 (pc' := 64) rfl (z := (3 : Int32)) rfl ?_
    have hc64 : ¬ ((0 : Int) = (3 : Int)) := by decide
    refine g_icmpYes X0 hx hby at_64 (pc' := 72) (feq (show ¬ ((0 : Int32) = (3 : Int32)) from fun q => hc64 (congrArg Int32.toInt q))).2 (by decide) (by decide) ?_
    refine g_iload X0 hx hby at_72 (pc' := 74) rfl rfl ?_
    refine g_iconst X0 hx hby at_74 (pc' := 75) rfl (z := (2 : Int32)) rfl ?_
    have hc75 : ¬ ((0 : Int) = (2 : Int)) := by decide
    refine g_icmpYes X0 hx hby at_75 (pc' := 83) (feq (show ¬ ((0 : Int32) = (2 : Int32)) from fun q => hc75 (congrArg Int32.toInt q))).2 (by decide) (by decide) ?_
    refine g_lload X0 hx hby at_83 (pc' := 85) rfl rfl ?_
    refine g_lstore X0 hx hby at_85 (pc' := 87) rfl (L' := #[.val (.int p1), .val (.long q1), .second, .val (.long q2), .second, .val (.long q3), .second, .val (.int p2), .val (.int (0 : Int32)), .val (.long v2), .second, .val (.long v3), .second, .val (.long v4), .second, .val (.long v5), .second, .val (.long v2), .second, .unset, .unset]) rfl ?_
    refine g_lload X0 hx hby at_87 (pc' := 89) rfl rfl ?_
    refine g_ldcL X0 hx hby hZ hown (wi hw 2 rfl) at_89 (pc' := 92) rfl ?_
    refine g_lcmp X0 hx hby at_92 (pc' := 93) rfl  ?_
    by_cases hc93 : (2147483647 : Int) < v2.toInt
    · refine g_ifNo X0 hx hby at_93 (pc' := 96) (tlt (show (0 : Int32) < (lcmpW v2 (2147483647 : Int64)) from (lw_gt v2 (2147483647 : Int64)).mpr (Int64.lt_iff_toInt_lt.mpr hc93))).2.2.2 rfl ?_
      refine g_iconst X0 hx hby at_96 (pc' := 97) rfl (z := (1 : Int32)) rfl ?_
      refine Go.retZ X0 hx hlk hret (by simp) (hb hby at_97) (by decide) (by decide) ?_
      exact ⟨rfl, N0⟩
    · refine g_ifYes X0 hx hby at_93 (pc' := 98) (flt (show ¬ ((0 : Int32) < (lcmpW v2 (2147483647 : Int64))) from fun q => hc93 (Int64.lt_iff_toInt_lt.mp ((lw_gt v2 (2147483647 : Int64)).mp q)))).2.2.2 (by decide) (by decide) ?_
      refine g_iload X0 hx hby at_98 (pc' := 100) rfl rfl ?_
      refine Go.newarr X0 hx hZ (n := 0) (cap := 0) (ty := .int) rfl (wi hw 3 rfl) e0 (by decide) rfl (by decide) (by decide) (by decide) (by decide) (hb hby at_100) ?_
      intro T6 h6 b6 X6 e6 E6 hb6 V6
      have g7 : n0 ≤ b6 := by rw [hb6]; exact Z0
      have V8 : ArF Z h6 b6 .int 0 (fun i => .int ((fun _ => (0 : Int32)) i)) := V6
      show Go p.tables e below s _ _ _ (T6.setTop (mkF m 102 #[.val (.int p1), .val (.long q1), .second, .val (.long q2), .second, .val (.long q3), .second, .val (.int p2), .val (.int (0 : Int32)), .val (.long v2), .second, .val (.long v3), .second, .val (.long v4), .second, .val (.long v5), .second, .val (.long v2), .second, .unset, .unset] [(.ref b6)]))
      refine g_astore X6 hx hby at_102 (pc' := 104) rfl rfl (L' := #[.val (.int p1), .val (.long q1), .second, .val (.long q2), .second, .val (.long q3), .second, .val (.int p2), .val (.int (0 : Int32)), .val (.long v2), .second, .val (.long v3), .second, .val (.long v4), .second, .val (.long v5), .second, .val (.long v2), .second, .val (.ref b6), .unset]) rfl ?_
      refine g_iload X6 hx hby at_104 (pc' := 106) rfl rfl ?_
      have hc106 : ¬ ((0 : Int) < (0 : Int)) := by decide
      refine g_ifYes X6 hx hby at_106 (pc' := 116) (flt (show ¬ ((0 : Int32) < (0 : Int32)) from fun q => hc106 (Int32.lt_iff_toInt_lt.mp q))).2.2.2 (by decide) (by decide) ?_
      refine g_iload X6 hx hby at_116 (pc' := 118) rfl rfl ?_
      refine g_iconst X6 hx hby at_118 (pc' := 119) rfl (z := (1 : Int32)) rfl ?_
      have hc119 : ¬ ((1 : Int) < (0 : Int)) := by decide
      refine g_icmpYes X6 hx hby at_119 (pc' := 129) (flt (show ¬ ((1 : Int32) < (0 : Int32)) from fun q => hc119 (Int32.lt_iff_toInt_lt.mp q))).2.2.2 (by decide) (by decide) ?_
      refine g_iload X6 hx hby at_129 (pc' := 131) rfl rfl ?_
      refine g_iconst X6 hx hby at_131 (pc' := 132) rfl (z := (2 : Int32)) rfl ?_
      have hc132 : ¬ ((2 : Int) < (0 : Int)) := by decide
      refine g_icmpYes X6 hx hby at_132 (pc' := 142) (flt (show ¬ ((2 : Int32) < (0 : Int32)) from fun q => hc132 (Int32.lt_iff_toInt_lt.mp q))).2.2.2 (by decide) (by decide) ?_
      refine g_iload X6 hx hby at_142 (pc' := 144) rfl rfl ?_
      refine g_iconst X6 hx hby at_144 (pc' := 145) rfl (z := (3 : Int32)) rfl ?_
      have hc145 : ¬ ((3 : Int) < (0 : Int)) := by decide
      refine g_icmpYes X6 hx hby at_145 (pc' := 155) (flt (show ¬ ((3 : Int32) < (0 : Int32)) from fun q => hc145 (Int32.lt_iff_toInt_lt.mp q))).2.2.2 (by decide) (by decide) ?_
      refine g_aload X6 hx hby at_155 (pc' := 157) rfl rfl rfl ?_
      refine Go.callS X6 hx hZ (y := (⟨"trimwire/service/Factor", "requireAscending", "([I)V"⟩ : MethodName)) hown (wi hw 4 rfl) (wi hw 5 rfl) (wi hw 6 rfl) (wi hw 7 rfl) (by decide) e6 (argsL := [(.ref b6)]) (rest := []) (W := 0) (rm1_0 l Z a0 hw b6 (fun _ => (0 : Int32)) h6 n0 (Nat.le_trans Z0 E6.1) V8) (hb hby at_157) (by rw [hml]; rfl) rfl pd_ayIzV rfl rfl (by decide) (by decide) (by decide) (by decide) ?_
      intro v9 T9 L9 X9 hQ9
      obtain ⟨rfl, Nq9, hh9⟩ := hQ9
      have N9 := Fr.app N0 Nq9
      show Go p.tables e below s _ _ _ (T9.setTop (mkF m 160 #[.val (.int p1), .val (.long q1), .second, .val (.long q2), .second, .val (.long q3), .second, .val (.int p2), .val (.int (0 : Int32)), .val (.long v2), .second, .val (.long v3), .second, .val (.long v4), .second, .val (.long v5), .second, .val (.long v2), .second, .val (.ref b6), .unset] []))
      refine g_aload X9 hx hby at_160 (pc' := 162) rfl rfl rfl ?_
      refine Go.alen X9 hx hZ hh9 V8 (hb hby at_162) ?_
      show Go p.tables e below s _ _ _ (T9.setTop (mkF m 163 #[.val (.int p1), .val (.long q1), .second, .val (.long q2), .second, .val (.long q3), .second, .val (.int p2), .val (.int (0 : Int32)), .val (.long v2), .second, .val (.long v3), .second, .val (.long v4), .second, .val (.long v5), .second, .val (.long v2), .second, .val (.ref b6), .unset] [(.int (0 : Int32))]))
      refine g_iload X9 hx hby at_163 (pc' := 165) rfl rfl ?_
      have hc165 : (0 : Int) = (0 : Int) := by decide
      refine g_icmpNo X9 hx hby at_165 (pc' := 168) (teq (show (0 : Int32) = (0 : Int32) from Int32.toInt_inj.mp hc165)).2 rfl ?_
      refine g_iconst X9 hx hby at_168 (pc' := 169) rfl (z := (1 : Int32)) rfl ?_
      refine g_goto X9 hx hby at_169 (pc' := 173) (by decide) (by decide) ?_
      refine g_istore X9 hx hby at_173 (pc' := 175) rfl (L' := #[.val (.int p1), .val (.long q1), .second, .val (.long q2), .second, .val (.long q3), .second, .val (.int p2), .val (.int (0 : Int32)), .val (.long v2), .second, .val (.long v3), .second, .val (.long v4), .second, .val (.long v5), .second, .val (.long v2), .second, .val (.ref b6), .val (.int (1 : Int32))]) rfl ?_
      refine g_iload X9 hx hby at_175 (pc' := 177) rfl rfl ?_
      have hc177 : ¬ ((0 : Int) < (0 : Int)) := by decide
      refine g_ifYes X9 hx hby at_177 (pc' := 202) (flt (show ¬ ((0 : Int32) < (0 : Int32)) from fun q => hc177 (Int32.lt_iff_toInt_lt.mp q))).2.2.2 (by decide) (by decide) ?_
      refine g_iload X9 hx hby at_202 (pc' := 204) rfl rfl ?_
      refine g_iconst X9 hx hby at_204 (pc' := 205) rfl (z := (1 : Int32)) rfl ?_
      have hc205 : ¬ ((1 : Int) < (0 : Int)) := by decide
      refine g_icmpYes X9 hx hby at_205 (pc' := 230) (flt (show ¬ ((1 : Int32) < (0 : Int32)) from fun q => hc205 (Int32.lt_iff_toInt_lt.mp q))).2.2.2 (by decide) (by decide) ?_
      refine g_iload X9 hx hby at_230 (pc' := 232) rfl rfl ?_
      refine g_iconst X9 hx hby at_232 (pc' := 233) rfl (z := (2 : Int32)) rfl ?_
      have hc233 : ¬ ((2 : Int) < (0 : Int)) := by decide
      refine g_icmpYes X9 hx hby at_233 (pc' := 258) (flt (show ¬ ((2 : Int32) < (0 : Int32)) from fun q => hc233 (Int32.lt_iff_toInt_lt.mp q))).2.2.2 (by decide) (by decide) ?_
      refine g_iload X9 hx hby at_258 (pc' := 260) rfl rfl ?_
      refine g_iconst X9 hx hby at_260 (pc' := 261) rfl (z := (3 : Int32)) rfl ?_
      have hc261 : ¬ ((3 : Int) < (0 : Int)) := by decide
      refine g_icmpYes X9 hx hby at_261 (pc' := 286) (flt (show ¬ ((3 : Int32) < (0 : Int32)) from fun q => hc261 (Int32.lt_iff_toInt_lt.mp q))).2.2.2 (by decide) (by decide) ?_
      refine g_iload X9 hx hby at_286 (pc' := 288) rfl rfl ?_
      refine Go.retZ X9 hx hlk hret (by simp) (hb hby at_288) (by decide) (by decide) ?_
      exact ⟨rfl, N9⟩
  · show Go p.tables e below s _ _ _ (T0.setTop (mkF m 50 #[.val (.int p1), .val (.long q1), .second, .val (.long q2), .second, .val (.long q3), .second, .val (.int p2), .val (.int (1 : Int32)), .val (.long v2), .second, .val (.long v3), .second, .val (.long v4), .second, .val (.long v5), .second, .unset, .unset, .unset, .unset] []))
    refine g_iload X0 hx hby at_50 (pc' := 52) rfl rfl ?_
    refine g_iconst X0 hx hby at_52 (pc' := 53) rfl (z := (4 : Int32)) rfl ?_
    have hc53 : ¬ ((1 : Int) = (4 : Int)) := by decide
    refine g_icmpYes X0 hx hby at_53 (pc' := 61) (feq (show ¬ ((1 : Int32) = (4 : Int32)) from fun q => hc53 (congrArg Int32.toInt q))).2 (by decide) (by decide) ?_
    refine g_iload X0 hx hby at_61 (pc' := 63) rfl rfl ?_
    refine g_iconst X0 hx hby at_63 (pc' := 64) rfl (z := (3 : Int32)) rfl ?_
    have hc64 : ¬ ((1 : Int) = (3 : Int)) := by decide
    refine g_icmpYes X0 hx hby at_64 (pc' := 72) (feq (show ¬ ((1 : Int32) = (3 : Int32)) from fun q => hc64 (congrArg Int32.toInt q))).2 (by decide) (by decide) ?_
    refine g_iload X0 hx hby at_72 (pc' := 74) rfl rfl ?_
    refine g_iconst X0 hx hby at_74 (pc' := 75) rfl (z := (2 : Int32)) rfl ?_
    have hc75 : ¬ ((1 : Int) = (2 : Int)) := by decide
    refine g_icmpYes X0 hx hby at_75 (pc' := 83) (feq (show ¬ ((1 : Int32) = (2 : Int32)) from fun q => hc75 (congrArg Int32.toInt q))).2 (by decide) (by decide) ?_
    refine g_lload X0 hx hby at_83 (pc' := 85) rfl rfl ?_
    refine g_lstore X0 hx hby at_85 (pc' := 87) rfl (L' := #[.val (.int p1), .val (.long q1), .second, .val (.long q2), .second, .val (.long q3), .second, .val (.int p2), .val (.int (1 : Int32)), .val (.long v2), .second, .val (.long v3), .second, .val (.long v4), .second, .val (.long v5), .second, .val (.long v2), .second, .unset, .unset]) rfl ?_
    refine g_lload X0 hx hby at_87 (pc' := 89) rfl rfl ?_
    refine g_ldcL X0 hx hby hZ hown (wi hw 2 rfl) at_89 (pc' := 92) rfl ?_
    refine g_lcmp X0 hx hby at_92 (pc' := 93) rfl  ?_
    by_cases hc93 : (2147483647 : Int) < v2.toInt
    · refine g_ifNo X0 hx hby at_93 (pc' := 96) (tlt (show (0 : Int32) < (lcmpW v2 (2147483647 : Int64)) from (lw_gt v2 (2147483647 : Int64)).mpr (Int64.lt_iff_toInt_lt.mpr hc93))).2.2.2 rfl ?_
      refine g_iconst X0 hx hby at_96 (pc' := 97) rfl (z := (1 : Int32)) rfl ?_
      refine Go.retZ X0 hx hlk hret (by simp) (hb hby at_97) (by decide) (by decide) ?_
      exact ⟨rfl, N0⟩
    · refine g_ifYes X0 hx hby at_93 (pc' := 98) (flt (show ¬ ((0 : Int32) < (lcmpW v2 (2147483647 : Int64))) from fun q => hc93 (Int64.lt_iff_toInt_lt.mp ((lw_gt v2 (2147483647 : Int64)).mp q)))).2.2.2 (by decide) (by decide) ?_
      refine g_iload X0 hx hby at_98 (pc' := 100) rfl rfl ?_
      refine Go.newarr X0 hx hZ (n := 1) (cap := 1) (ty := .int) rfl (wi hw 3 rfl) e0 (by decide) rfl (by decide) (by decide) (by decide) (by decide) (hb hby at_100) ?_
      intro T10 h10 b10 X10 e10 E10 hb10 V10
      have g11 : n0 ≤ b10 := by rw [hb10]; exact Z0
      have V12 : ArF Z h10 b10 .int 1 (fun i => .int ((fun _ => (0 : Int32)) i)) := V10
      show Go p.tables e below s _ _ _ (T10.setTop (mkF m 102 #[.val (.int p1), .val (.long q1), .second, .val (.long q2), .second, .val (.long q3), .second, .val (.int p2), .val (.int (1 : Int32)), .val (.long v2), .second, .val (.long v3), .second, .val (.long v4), .second, .val (.long v5), .second, .val (.long v2), .second, .unset, .unset] [(.ref b10)]))
      refine g_astore X10 hx hby at_102 (pc' := 104) rfl rfl (L' := #[.val (.int p1), .val (.long q1), .second, .val (.long q2), .second, .val (.long q3), .second, .val (.int p2), .val (.int (1 : Int32)), .val (.long v2), .second, .val (.long v3), .second, .val (.long v4), .second, .val (.long v5), .second, .val (.long v2), .second, .val (.ref b10), .unset]) rfl ?_
      refine g_iload X10 hx hby at_104 (pc' := 106) rfl rfl ?_
      have hc106 : (0 : Int) < (1 : Int) := by decide
      refine g_ifNo X10 hx hby at_106 (pc' := 109) (tlt (show (0 : Int32) < (1 : Int32) from Int32.lt_iff_toInt_lt.mpr hc106)).2.2.2 rfl ?_
      refine g_aload X10 hx hby at_109 (pc' := 111) rfl rfl rfl ?_
      refine g_iconst X10 hx hby at_111 (pc' := 112) rfl (z := (0 : Int32)) rfl ?_
      refine g_lload X10 hx hby at_112 (pc' := 114) rfl rfl ?_
      refine g_l2i X10 hx hby at_114 (pc' := 115) rfl rfl ?_
      refine Go.iastore X10 hx hZ e10 V12 (k := 0) rfl (by decide) (hb hby at_115) ?_
      intro T13 h13 X13 e13 W13 V13
      show Go p.tables e below s _ _ _ (T13.setTop (mkF m 116 #[.val (.int p1), .val (.long q1), .second, .val (.long q2), .second, .val (.long q3), .second, .val (.int p2), .val (.int (1 : Int32)), .val (.long v2), .second, .val (.long v3), .second, .val (.long v4), .second, .val (.long v5), .second, .val (.long v2), .second, .val (.ref b10), .unset] []))
      refine g_iload X13 hx hby at_116 (pc' := 118) rfl rfl ?_
      refine g_iconst X13 hx hby at_118 (pc' := 119) rfl (z := (1 : Int32)) rfl ?_
      have hc119 : ¬ ((1 : Int) < (1 : Int)) := by decide
      refine g_icmpYes X13 hx hby at_119 (pc' := 129) (flt (show ¬ ((1 : Int32) < (1 : Int32)) from fun q => hc119 (Int32.lt_iff_toInt_lt.mp q))).2.2.2 (by decide) (by decide) ?_
      refine g_iload X13 hx hby at_129 (pc' := 131) rfl rfl ?_
      refine g_iconst X13 hx hby at_131 (pc' := 132) rfl (z := (2 : Int32)) rfl ?_
      have hc132 : ¬ ((2 : Int) < (1 : Int)) := by decide
      refine g_icmpYes X13 hx hby at_132 (pc' := 142) (flt (show ¬ ((2 : Int32) < (1 : Int32)) from fun q => hc132 (Int32.lt_iff_toInt_lt.mp q))).2.2.2 (by decide) (by decide) ?_
      refine g_iload X13 hx hby at_142 (pc' := 144) rfl rfl ?_
      refine g_iconst X13 hx hby at_144 (pc' := 145) rfl (z := (3 : Int32)) rfl ?_
      have hc145 : ¬ ((3 : Int) < (1 : Int)) := by decide
      refine g_icmpYes X13 hx hby at_145 (pc' := 155) (flt (show ¬ ((3 : Int32) < (1 : Int32)) from fun q => hc145 (Int32.lt_iff_toInt_lt.mp q))).2.2.2 (by decide) (by decide) ?_
      refine g_aload X13 hx hby at_155 (pc' := 157) rfl rfl rfl ?_
      refine Go.callS X13 hx hZ (y := (⟨"trimwire/service/Factor", "requireAscending", "([I)V"⟩ : MethodName)) hown (wi hw 4 rfl) (wi hw 5 rfl) (wi hw 6 rfl) (wi hw 7 rfl) (by decide) e13 (argsL := [(.ref b10)]) (rest := []) (W := 0) (rm1_1 l Z a0 hw b10 (upI (fun _ => (0 : Int32)) 0 (v2.toInt32)) h13 n0 (Nat.le_trans (Nat.le_trans Z0 E10.1) (Nat.le_of_eq (Wr.size W13).symm)) V13) (hb hby at_157) (by rw [hml]; rfl) rfl pd_ayIzV rfl rfl (by decide) (by decide) (by decide) (by decide) ?_
      intro v14 T14 L14 X14 hQ14
      obtain ⟨rfl, Nq14, hh14⟩ := hQ14
      have N14 := Fr.app (Fr.snoc X13 N0 g11) Nq14
      show Go p.tables e below s _ _ _ (T14.setTop (mkF m 160 #[.val (.int p1), .val (.long q1), .second, .val (.long q2), .second, .val (.long q3), .second, .val (.int p2), .val (.int (1 : Int32)), .val (.long v2), .second, .val (.long v3), .second, .val (.long v4), .second, .val (.long v5), .second, .val (.long v2), .second, .val (.ref b10), .unset] []))
      refine g_aload X14 hx hby at_160 (pc' := 162) rfl rfl rfl ?_
      refine Go.alen X14 hx hZ hh14 V13 (hb hby at_162) ?_
      show Go p.tables e below s _ _ _ (T14.setTop (mkF m 163 #[.val (.int p1), .val (.long q1), .second, .val (.long q2), .second, .val (.long q3), .second, .val (.int p2), .val (.int (1 : Int32)), .val (.long v2), .second, .val (.long v3), .second, .val (.long v4), .second, .val (.long v5), .second, .val (.long v2), .second, .val (.ref b10), .unset] [(.int (1 : Int32))]))
      refine g_iload X14 hx hby at_163 (pc' := 165) rfl rfl ?_
      have hc165 : (1 : Int) = (1 : Int) := by decide
      refine g_icmpNo X14 hx hby at_165 (pc' := 168) (teq (show (1 : Int32) = (1 : Int32) from Int32.toInt_inj.mp hc165)).2 rfl ?_
      refine g_iconst X14 hx hby at_168 (pc' := 169) rfl (z := (1 : Int32)) rfl ?_
      refine g_goto X14 hx hby at_169 (pc' := 173) (by decide) (by decide) ?_
      refine g_istore X14 hx hby at_173 (pc' := 175) rfl (L' := #[.val (.int p1), .val (.long q1), .second, .val (.long q2), .second, .val (.long q3), .second, .val (.int p2), .val (.int (1 : Int32)), .val (.long v2), .second, .val (.long v3), .second, .val (.long v4), .second, .val (.long v5), .second, .val (.long v2), .second, .val (.ref b10), .val (.int (1 : Int32))]) rfl ?_
      refine g_iload X14 hx hby at_175 (pc' := 177) rfl rfl ?_
      have hc177 : (0 : Int) < (1 : Int) := by decide
      refine g_ifNo X14 hx hby at_177 (pc' := 180) (tlt (show (0 : Int32) < (1 : Int32) from Int32.lt_iff_toInt_lt.mpr hc177)).2.2.2 rfl ?_
      refine g_iload X14 hx hby at_180 (pc' := 182) rfl rfl ?_
      have hc182 : ¬ ((1 : Int) = (0 : Int)) := by decide
      refine g_ifNo X14 hx hby at_182 (pc' := 185) (feq (show ¬ ((1 : Int32) = (0 : Int32)) from fun q => hc182 (congrArg Int32.toInt q))).1 rfl ?_
      refine g_aload X14 hx hby at_185 (pc' := 187) rfl rfl rfl ?_
      refine g_iconst X14 hx hby at_187 (pc' := 188) rfl (z := (0 : Int32)) rfl ?_
      refine Go.iaload X14 hx hZ hh14 V13 (k := 0) rfl (by decide) (hb hby at_188) ?_
      show Go p.tables e below s _ _ _ (T14.setTop (mkF m 189 #[.val (.int p1), .val (.long q1), .second, .val (.long q2), .second, .val (.long q3), .second, .val (.int p2), .val (.int (1 : Int32)), .val (.long v2), .second, .val (.long v3), .second, .val (.long v4), .second, .val (.long v5), .second, .val (.long v2), .second, .val (.ref b10), .val (.int (1 : Int32))] [(.int (v2.toInt32))]))
      refine g_lload X14 hx hby at_189 (pc' := 191) rfl rfl ?_
      refine g_l2i X14 hx hby at_191 (pc' := 192) rfl rfl ?_
      have hc192 : (v2.toInt32).toInt = (v2.toInt32).toInt := rfl
      refine g_icmpNo X14 hx hby at_192 (pc' := 195) (teq (show (v2.toInt32) = (v2.toInt32) from Int32.toInt_inj.mp hc192)).2 rfl ?_
      refine g_iconst X14 hx hby at_195 (pc' := 196) rfl (z := (1 : Int32)) rfl ?_
      refine g_goto X14 hx hby at_196 (pc' := 200) (by decide) (by decide) ?_
      refine g_istore X14 hx hby at_200 (pc' := 202) rfl (L' := #[.val (.int p1), .val (.long q1), .second, .val (.long q2), .second, .val (.long q3), .second, .val (.int p2), .val (.int (1 : Int32)), .val (.long v2), .second, .val (.long v3), .second, .val (.long v4), .second, .val (.long v5), .second, .val (.long v2), .second, .val (.ref b10), .val (.int (1 : Int32))]) rfl ?_
      refine g_iload X14 hx hby at_202 (pc' := 204) rfl rfl ?_
      refine g_iconst X14 hx hby at_204 (pc' := 205) rfl (z := (1 : Int32)) rfl ?_
      have hc205 : ¬ ((1 : Int) < (1 : Int)) := by decide
      refine g_icmpYes X14 hx hby at_205 (pc' := 230) (flt (show ¬ ((1 : Int32) < (1 : Int32)) from fun q => hc205 (Int32.lt_iff_toInt_lt.mp q))).2.2.2 (by decide) (by decide) ?_
      refine g_iload X14 hx hby at_230 (pc' := 232) rfl rfl ?_
      refine g_iconst X14 hx hby at_232 (pc' := 233) rfl (z := (2 : Int32)) rfl ?_
      have hc233 : ¬ ((2 : Int) < (1 : Int)) := by decide
      refine g_icmpYes X14 hx hby at_233 (pc' := 258) (flt (show ¬ ((2 : Int32) < (1 : Int32)) from fun q => hc233 (Int32.lt_iff_toInt_lt.mp q))).2.2.2 (by decide) (by decide) ?_
      refine g_iload X14 hx hby at_258 (pc' := 260) rfl rfl ?_
      refine g_iconst X14 hx hby at_260 (pc' := 261) rfl (z := (3 : Int32)) rfl ?_
      have hc261 : ¬ ((3 : Int) < (1 : Int)) := by decide
      refine g_icmpYes X14 hx hby at_261 (pc' := 286) (flt (show ¬ ((3 : Int32) < (1 : Int32)) from fun q => hc261 (Int32.lt_iff_toInt_lt.mp q))).2.2.2 (by decide) (by decide) ?_
      refine g_iload X14 hx hby at_286 (pc' := 288) rfl rfl ?_
      refine Go.retZ X14 hx hlk hret (by simp) (hb hby at_288) (by decide) (by decide) ?_
      exact ⟨rfl, N14⟩
  · show Go p.tables e below s _ _ _ (T0.setTop (mkF m 50 #[.val (.int p1), .val (.long q1), .second, .val (.long q2), .second, .val (.long q3), .second, .val (.int p2), .val (.int (2 : Int32)), .val (.long v2), .second, .val (.long v3), .second, .val (.long v4), .second, .val (.long v5), .second, .unset, .unset, .unset, .unset] []))
    refine g_iload X0 hx hby at_50 (pc' := 52) rfl rfl ?_
    refine g_iconst X0 hx hby at_52 (pc' := 53) rfl (z := (4 : Int32)) rfl ?_
    have hc53 : ¬ ((2 : Int) = (4 : Int)) := by decide
    refine g_icmpYes X0 hx hby at_53 (pc' := 61) (feq (show ¬ ((2 : Int32) = (4 : Int32)) from fun q => hc53 (congrArg Int32.toInt q))).2 (by decide) (by decide) ?_
    refine g_iload X0 hx hby at_61 (pc' := 63) rfl rfl ?_
    refine g_iconst X0 hx hby at_63 (pc' := 64) rfl (z := (3 : Int32)) rfl ?_
    have hc64 : ¬ ((2 : Int) = (3 : Int)) := by decide
    refine g_icmpYes X0 hx hby at_64 (pc' := 72) (feq (show ¬ ((2 : Int32) = (3 : Int32)) from fun q => hc64 (congrArg Int32.toInt q))).2 (by decide) (by decide) ?_
    refine g_iload X0 hx hby at_72 (pc' := 74) rfl rfl ?_
    refine g_iconst X0 hx hby at_74 (pc' := 75) rfl (z := (2 : Int32)) rfl ?_
    have hc75 : (2 : Int) = (2 : Int) := by decide
    refine g_icmpNo X0 hx hby at_75 (pc' := 78) (teq (show (2 : Int32) = (2 : Int32) from Int32.toInt_inj.mp hc75)).2 rfl ?_
    refine g_lload X0 hx hby at_78 (pc' := 80) rfl rfl ?_
    refine g_goto X0 hx hby at_80 (pc' := 85) (by decide) (by decide) ?_
    refine g_lstore X0 hx hby at_85 (pc' := 87) rfl (L' := #[.val (.int p1), .val (.long q1), .second, .val (.long q2), .second, .val (.long q3), .second, .val (.int p2), .val (.int (2 : Int32)), .val (.long v2), .second, .val (.long v3), .second, .val (.long v4), .second, .val (.long v5), .second, .val (.long v3), .second, .unset, .unset]) rfl ?_
    refine g_lload X0 hx hby at_87 (pc' := 89) rfl rfl ?_
    refine g_ldcL X0 hx hby hZ hown (wi hw 2 rfl) at_89 (pc' := 92) rfl ?_
    refine g_lcmp X0 hx hby at_92 (pc' := 93) rfl  ?_
    by_cases hc93 : (2147483647 : Int) < v3.toInt
    · refine g_ifNo X0 hx hby at_93 (pc' := 96) (tlt (show (0 : Int32) < (lcmpW v3 (2147483647 : Int64)) from (lw_gt v3 (2147483647 : Int64)).mpr (Int64.lt_iff_toInt_lt.mpr hc93))).2.2.2 rfl ?_
      refine g_iconst X0 hx hby at_96 (pc' := 97) rfl (z := (1 : Int32)) rfl ?_
      refine Go.retZ X0 hx hlk hret (by simp) (hb hby at_97) (by decide) (by decide) ?_
      exact ⟨rfl, N0⟩
    · refine g_ifYes X0 hx hby at_93 (pc' := 98) (flt (show ¬ ((0 : Int32) < (lcmpW v3 (2147483647 : Int64))) from fun q => hc93 (Int64.lt_iff_toInt_lt.mp ((lw_gt v3 (2147483647 : Int64)).mp q)))).2.2.2 (by decide) (by decide) ?_
      refine g_iload X0 hx hby at_98 (pc' := 100) rfl rfl ?_
      refine Go.newarr X0 hx hZ (n := 2) (cap := 2) (ty := .int) rfl (wi hw 3 rfl) e0 (by decide) rfl (by decide) (by decide) (by decide) (by decide) (hb hby at_100) ?_
      intro T15 h15 b15 X15 e15 E15 hb15 V15
      have g16 : n0 ≤ b15 := by rw [hb15]; exact Z0
      have V17 : ArF Z h15 b15 .int 2 (fun i => .int ((fun _ => (0 : Int32)) i)) := V15
      show Go p.tables e below s _ _ _ (T15.setTop (mkF m 102 #[.val (.int p1), .val (.long q1), .second, .val (.long q2), .second, .val (.long q3), .second, .val (.int p2), .val (.int (2 : Int32)), .val (.long v2), .second, .val (.long v3), .second, .val (.long v4), .second, .val (.long v5), .second, .val (.long v3), .second, .unset, .unset] [(.ref b15)]))
      refine g_astore X15 hx hby at_102 (pc' := 104) rfl rfl (L' := #[.val (.int p1), .val (.long q1), .second, .val (.long q2), .second, .val (.long q3), .second, .val (.int p2), .val (.int (2 : Int32)), .val (.long v2), .second, .val (.long v3), .second, .val (.long v4), .second, .val (.long v5), .second, .val (.long v3), .second, .val (.ref b15), .unset]) rfl ?_
      refine g_iload X15 hx hby at_104 (pc' := 106) rfl rfl ?_
      have hc106 : (0 : Int) < (2 : Int) := by decide
      refine g_ifNo X15 hx hby at_106 (pc' := 109) (tlt (show (0 : Int32) < (2 : Int32) from Int32.lt_iff_toInt_lt.mpr hc106)).2.2.2 rfl ?_
      refine g_aload X15 hx hby at_109 (pc' := 111) rfl rfl rfl ?_
      refine g_iconst X15 hx hby at_111 (pc' := 112) rfl (z := (0 : Int32)) rfl ?_
      refine g_lload X15 hx hby at_112 (pc' := 114) rfl rfl ?_
      refine g_l2i X15 hx hby at_114 (pc' := 115) rfl rfl ?_
      refine Go.iastore X15 hx hZ e15 V17 (k := 0) rfl (by decide) (hb hby at_115) ?_
      intro T18 h18 X18 e18 W18 V18
      show Go p.tables e below s _ _ _ (T18.setTop (mkF m 116 #[.val (.int p1), .val (.long q1), .second, .val (.long q2), .second, .val (.long q3), .second, .val (.int p2), .val (.int (2 : Int32)), .val (.long v2), .second, .val (.long v3), .second, .val (.long v4), .second, .val (.long v5), .second, .val (.long v3), .second, .val (.ref b15), .unset] []))
      refine g_iload X18 hx hby at_116 (pc' := 118) rfl rfl ?_
      refine g_iconst X18 hx hby at_118 (pc' := 119) rfl (z := (1 : Int32)) rfl ?_
      have hc119 : (1 : Int) < (2 : Int) := by decide
      refine g_icmpNo X18 hx hby at_119 (pc' := 122) (tlt (show (1 : Int32) < (2 : Int32) from Int32.lt_iff_toInt_lt.mpr hc119)).2.2.2 rfl ?_
      refine g_aload X18 hx hby at_122 (pc' := 124) rfl rfl rfl ?_
      refine g_iconst X18 hx hby at_124 (pc' := 125) rfl (z := (1 : Int32)) rfl ?_
      refine g_lload X18 hx hby at_125 (pc' := 127) rfl rfl ?_
      refine g_l2i X18 hx hby at_127 (pc' := 128) rfl rfl ?_
      refine Go.iastore X18 hx hZ e18 V18 (k := 1) rfl (by decide) (hb hby at_128) ?_
      intro T19 h19 X19 e19 W19 V19
      show Go p.tables e below s _ _ _ (T19.setTop (mkF m 129 #[.val (.int p1), .val (.long q1), .second, .val (.long q2), .second, .val (.long q3), .second, .val (.int p2), .val (.int (2 : Int32)), .val (.long v2), .second, .val (.long v3), .second, .val (.long v4), .second, .val (.long v5), .second, .val (.long v3), .second, .val (.ref b15), .unset] []))
      refine g_iload X19 hx hby at_129 (pc' := 131) rfl rfl ?_
      refine g_iconst X19 hx hby at_131 (pc' := 132) rfl (z := (2 : Int32)) rfl ?_
      have hc132 : ¬ ((2 : Int) < (2 : Int)) := by decide
      refine g_icmpYes X19 hx hby at_132 (pc' := 142) (flt (show ¬ ((2 : Int32) < (2 : Int32)) from fun q => hc132 (Int32.lt_iff_toInt_lt.mp q))).2.2.2 (by decide) (by decide) ?_
      refine g_iload X19 hx hby at_142 (pc' := 144) rfl rfl ?_
      refine g_iconst X19 hx hby at_144 (pc' := 145) rfl (z := (3 : Int32)) rfl ?_
      have hc145 : ¬ ((3 : Int) < (2 : Int)) := by decide
      refine g_icmpYes X19 hx hby at_145 (pc' := 155) (flt (show ¬ ((3 : Int32) < (2 : Int32)) from fun q => hc145 (Int32.lt_iff_toInt_lt.mp q))).2.2.2 (by decide) (by decide) ?_
      refine g_aload X19 hx hby at_155 (pc' := 157) rfl rfl rfl ?_
      have y0 : (v2.toInt32).toInt < (v3.toInt32).toInt := by have : ((v2.toInt32).toInt - v2.toInt) % 4294967296 = 0 := c_l2i _; have : -2147483648 ≤ (v2.toInt32).toInt ∧ (v2.toInt32).toInt < 2147483648 := rng32 _; have : -9223372036854775808 ≤ v2.toInt ∧ v2.toInt < 9223372036854775808 := rng64 _; have : ((v3.toInt32).toInt - v3.toInt) % 4294967296 = 0 := c_l2i _; have : -2147483648 ≤ (v3.toInt32).toInt ∧ (v3.toInt32).toInt < 2147483648 := rng32 _; have : -9223372036854775808 ≤ v3.toInt ∧ v3.toInt < 9223372036854775808 := rng64 _; omega
      refine Go.callS X19 hx hZ (y := (⟨"trimwire/service/Factor", "requireAscending", "([I)V"⟩ : MethodName)) hown (wi hw 4 rfl) (wi hw 5 rfl) (wi hw 6 rfl) (wi hw 7 rfl) (by decide) e19 (argsL := [(.ref b15)]) (rest := []) (W := 0) (rm1_2 l Z a0 hw b15 (upI (upI (fun _ => (0 : Int32)) 0 (v2.toInt32)) 1 (v3.toInt32)) h19 n0 (Nat.le_trans (Nat.le_trans (Nat.le_trans Z0 E15.1) (Nat.le_of_eq (Wr.size W18).symm)) (Nat.le_of_eq (Wr.size W19).symm)) V19 y0) (hb hby at_157) (by rw [hml]; rfl) rfl pd_ayIzV rfl rfl (by decide) (by decide) (by decide) (by decide) ?_
      intro v20 T20 L20 X20 hQ20
      obtain ⟨rfl, Nq20, hh20⟩ := hQ20
      have N20 := Fr.app (Fr.snoc X19 (Fr.snoc X18 N0 g16) g16) Nq20
      show Go p.tables e below s _ _ _ (T20.setTop (mkF m 160 #[.val (.int p1), .val (.long q1), .second, .val (.long q2), .second, .val (.long q3), .second, .val (.int p2), .val (.int (2 : Int32)), .val (.long v2), .second, .val (.long v3), .second, .val (.long v4), .second, .val (.long v5), .second, .val (.long v3), .second, .val (.ref b15), .unset] []))
      refine g_aload X20 hx hby at_160 (pc' := 162) rfl rfl rfl ?_
      refine Go.alen X20 hx hZ hh20 V19 (hb hby at_162) ?_
      show Go p.tables e below s _ _ _ (T20.setTop (mkF m 163 #[.val (.int p1), .val (.long q1), .second, .val (.long q2), .second, .val (.long q3), .second, .val (.int p2), .val (.int (2 : Int32)), .val (.long v2), .second, .val (.long v3), .second, .val (.long v4), .second, .val (.long v5), .second, .val (.long v3), .second, .val (.ref b15), .unset] [(.int (2 : Int32))]))
      refine g_iload X20 hx hby at_163 (pc' := 165) rfl rfl ?_
      have hc165 : (2 : Int) = (2 : Int) := by decide
      refine g_icmpNo X20 hx hby at_165 (pc' := 168) (teq (show (2 : Int32) = (2 : Int32) from Int32.toInt_inj.mp hc165)).2 rfl ?_
      refine g_iconst X20 hx hby at_168 (pc' := 169) rfl (z := (1 : Int32)) rfl ?_
      refine g_goto X20 hx hby at_169 (pc' := 173) (by decide) (by decide) ?_
      refine g_istore X20 hx hby at_173 (pc' := 175) rfl (L' := #[.val (.int p1), .val (.long q1), .second, .val (.long q2), .second, .val (.long q3), .second, .val (.int p2), .val (.int (2 : Int32)), .val (.long v2), .second, .val (.long v3), .second, .val (.long v4), .second, .val (.long v5), .second, .val (.long v3), .second, .val (.ref b15), .val (.int (1 : Int32))]) rfl ?_
      refine g_iload X20 hx hby at_175 (pc' := 177) rfl rfl ?_
      have hc177 : (0 : Int) < (2 : Int) := by decide
      refine g_ifNo X20 hx hby at_177 (pc' := 180) (tlt (show (0 : Int32) < (2 : Int32) from Int32.lt_iff_toInt_lt.mpr hc177)).2.2.2 rfl ?_
      refine g_iload X20 hx hby at_180 (pc' := 182) rfl rfl ?_
      have hc182 : ¬ ((1 : Int) = (0 : Int)) := by decide
      refine g_ifNo X20 hx hby at_182 (pc' := 185) (feq (show ¬ ((1 : Int32) = (0 : Int32)) from fun q => hc182 (congrArg Int32.toInt q))).1 rfl ?_
      refine g_aload X20 hx hby at_185 (pc' := 187) rfl rfl rfl ?_
      refine g_iconst X20 hx hby at_187 (pc' := 188) rfl (z := (0 : Int32)) rfl ?_
      refine Go.iaload X20 hx hZ hh20 V19 (k := 0) rfl (by decide) (hb hby at_188) ?_
      show Go p.tables e below s _ _ _ (T20.setTop (mkF m 189 #[.val (.int p1), .val (.long q1), .second, .val (.long q2), .second, .val (.long q3), .second, .val (.int p2), .val (.int (2 : Int32)), .val (.long v2), .second, .val (.long v3), .second, .val (.long v4), .second, .val (.long v5), .second, .val (.long v3), .second, .val (.ref b15), .val (.int (1 : Int32))] [(.int (v2.toInt32))]))
      refine g_lload X20 hx hby at_189 (pc' := 191) rfl rfl ?_
      refine g_l2i X20 hx hby at_191 (pc' := 192) rfl rfl ?_
      have hc192 : (v2.toInt32).toInt = (v2.toInt32).toInt := rfl
      refine g_icmpNo X20 hx hby at_192 (pc' := 195) (teq (show (v2.toInt32) = (v2.toInt32) from Int32.toInt_inj.mp hc192)).2 rfl ?_
      refine g_iconst X20 hx hby at_195 (pc' := 196) rfl (z := (1 : Int32)) rfl ?_
      refine g_goto X20 hx hby at_196 (pc' := 200) (by decide) (by decide) ?_
      refine g_istore X20 hx hby at_200 (pc' := 202) rfl (L' := #[.val (.int p1), .val (.long q1), .second, .val (.long q2), .second, .val (.long q3), .second, .val (.int p2), .val (.int (2 : Int32)), .val (.long v2), .second, .val (.long v3), .second, .val (.long v4), .second, .val (.long v5), .second, .val (.long v3), .second, .val (.ref b15), .val (.int (1 : Int32))]) rfl ?_
      refine g_iload X20 hx hby at_202 (pc' := 204) rfl rfl ?_
      refine g_iconst X20 hx hby at_204 (pc' := 205) rfl (z := (1 : Int32)) rfl ?_
      have hc205 : (1 : Int) < (2 : Int) := by decide
      refine g_icmpNo X20 hx hby at_205 (pc' := 208) (tlt (show (1 : Int32) < (2 : Int32) from Int32.lt_iff_toInt_lt.mpr hc205)).2.2.2 rfl ?_
      refine g_iload X20 hx hby at_208 (pc' := 210) rfl rfl ?_
      have hc210 : ¬ ((1 : Int) = (0 : Int)) := by decide
      refine g_ifNo X20 hx hby at_210 (pc' := 213) (feq (show ¬ ((1 : Int32) = (0 : Int32)) from fun q => hc210 (congrArg Int32.toInt q))).1 rfl ?_
      refine g_aload X20 hx hby at_213 (pc' := 215) rfl rfl rfl ?_
      refine g_iconst X20 hx hby at_215 (pc' := 216) rfl (z := (1 : Int32)) rfl ?_
      refine Go.iaload X20 hx hZ hh20 V19 (k := 1) rfl (by decide) (hb hby at_216) ?_
      show Go p.tables e below s _ _ _ (T20.setTop (mkF m 217 #[.val (.int p1), .val (.long q1), .second, .val (.long q2), .second, .val (.long q3), .second, .val (.int p2), .val (.int (2 : Int32)), .val (.long v2), .second, .val (.long v3), .second, .val (.long v4), .second, .val (.long v5), .second, .val (.long v3), .second, .val (.ref b15), .val (.int (1 : Int32))] [(.int (v3.toInt32))]))
      refine g_lload X20 hx hby at_217 (pc' := 219) rfl rfl ?_
      refine g_l2i X20 hx hby at_219 (pc' := 220) rfl rfl ?_
      have hc220 : (v3.toInt32).toInt = (v3.toInt32).toInt := rfl
      refine g_icmpNo X20 hx hby at_220 (pc' := 223) (teq (show (v3.toInt32) = (v3.toInt32) from Int32.toInt_inj.mp hc220)).2 rfl ?_
      refine g_iconst X20 hx hby at_223 (pc' := 224) rfl (z := (1 : Int32)) rfl ?_
      refine g_goto X20 hx hby at_224 (pc' := 228) (by decide) (by decide) ?_
      refine g_istore X20 hx hby at_228 (pc' := 230) rfl (L' := #[.val (.int p1), .val (.long q1), .second, .val (.long q2), .second, .val (.long q3), .second, .val (.int p2), .val (.int (2 : Int32)), .val (.long v2), .second, .val (.long v3), .second, .val (.long v4), .second, .val (.long v5), .second, .val (.long v3), .second, .val (.ref b15), .val (.int (1 : Int32))]) rfl ?_
      refine g_iload X20 hx hby at_230 (pc' := 232) rfl rfl ?_
      refine g_iconst X20 hx hby at_232 (pc' := 233) rfl (z := (2 : Int32)) rfl ?_
      have hc233 : ¬ ((2 : Int) < (2 : Int)) := by decide
      refine g_icmpYes X20 hx hby at_233 (pc' := 258) (flt (show ¬ ((2 : Int32) < (2 : Int32)) from fun q => hc233 (Int32.lt_iff_toInt_lt.mp q))).2.2.2 (by decide) (by decide) ?_
      refine g_iload X20 hx hby at_258 (pc' := 260) rfl rfl ?_
      refine g_iconst X20 hx hby at_260 (pc' := 261) rfl (z := (3 : Int32)) rfl ?_
      have hc261 : ¬ ((3 : Int) < (2 : Int)) := by decide
      refine g_icmpYes X20 hx hby at_261 (pc' := 286) (flt (show ¬ ((3 : Int32) < (2 : Int32)) from fun q => hc261 (Int32.lt_iff_toInt_lt.mp q))).2.2.2 (by decide) (by decide) ?_
      refine g_iload X20 hx hby at_286 (pc' := 288) rfl rfl ?_
      refine Go.retZ X20 hx hlk hret (by simp) (hb hby at_288) (by decide) (by decide) ?_
      exact ⟨rfl, N20⟩
  · show Go p.tables e below s _ _ _ (T0.setTop (mkF m 50 #[.val (.int p1), .val (.long q1), .second, .val (.long q2), .second, .val (.long q3), .second, .val (.int p2), .val (.int (3 : Int32)), .val (.long v2), .second, .val (.long v3), .second, .val (.long v4), .second, .val (.long v5), .second, .unset, .unset, .unset, .unset] []))
    refine g_iload X0 hx hby at_50 (pc' := 52) rfl rfl ?_
    refine g_iconst X0 hx hby at_52 (pc' := 53) rfl (z := (4 : Int32)) rfl ?_
    have hc53 : ¬ ((3 : Int) = (4 : Int)) := by decide
    refine g_icmpYes X0 hx hby at_53 (pc' := 61) (feq (show ¬ ((3 : Int32) = (4 : Int32)) from fun q => hc53 (congrArg Int32.toInt q))).2 (by decide) (by decide) ?_
    refine g_iload X0 hx hby at_61 (pc' := 63) rfl rfl ?_
    refine g_iconst X0 hx hby at_63 (pc' := 64) rfl (z := (3 : Int32)) rfl ?_
    have hc64 : (3 : Int) = (3 : Int) := by decide
    refine g_icmpNo X0 hx hby at_64 (pc' := 67) (teq (show (3 : Int32) = (3 : Int32) from Int32.toInt_inj.mp hc64)).2 rfl ?_
    refine g_lload X0 hx hby at_67 (pc' := 69) rfl rfl ?_
    refine g_goto X0 hx hby at_69 (pc' := 85) (by decide) (by decide) ?_
    refine g_lstore X0 hx hby at_85 (pc' := 87) rfl (L' := #[.val (.int p1), .val (.long q1), .second, .val (.long q2), .second, .val (.long q3), .second, .val (.int p2), .val (.int (3 : Int32)), .val (.long v2), .second, .val (.long v3), .second, .val (.long v4), .second, .val (.long v5), .second, .val (.long v4), .second, .unset, .unset]) rfl ?_
    refine g_lload X0 hx hby at_87 (pc' := 89) rfl rfl ?_
    refine g_ldcL X0 hx hby hZ hown (wi hw 2 rfl) at_89 (pc' := 92) rfl ?_
    refine g_lcmp X0 hx hby at_92 (pc' := 93) rfl  ?_
    by_cases hc93 : (2147483647 : Int) < v4.toInt
    · refine g_ifNo X0 hx hby at_93 (pc' := 96) (tlt (show (0 : Int32) < (lcmpW v4 (2147483647 : Int64)) from (lw_gt v4 (2147483647 : Int64)).mpr (Int64.lt_iff_toInt_lt.mpr hc93))).2.2.2 rfl ?_
      refine g_iconst X0 hx hby at_96 (pc' := 97) rfl (z := (1 : Int32)) rfl ?_
      refine Go.retZ X0 hx hlk hret (by simp) (hb hby at_97) (by decide) (by decide) ?_
      exact ⟨rfl, N0⟩
    · refine g_ifYes X0 hx hby at_93 (pc' := 98) (flt (show ¬ ((0 : Int32) < (lcmpW v4 (2147483647 : Int64))) from fun q => hc93 (Int64.lt_iff_toInt_lt.mp ((lw_gt v4 (2147483647 : Int64)).mp q)))).2.2.2 (by decide) (by decide) ?_
      refine g_iload X0 hx hby at_98 (pc' := 100) rfl rfl ?_
      refine Go.newarr X0 hx hZ (n := 3) (cap := 3) (ty := .int) rfl (wi hw 3 rfl) e0 (by decide) rfl (by decide) (by decide) (by decide) (by decide) (hb hby at_100) ?_
      intro T21 h21 b21 X21 e21 E21 hb21 V21
      have g22 : n0 ≤ b21 := by rw [hb21]; exact Z0
      have V23 : ArF Z h21 b21 .int 3 (fun i => .int ((fun _ => (0 : Int32)) i)) := V21
      show Go p.tables e below s _ _ _ (T21.setTop (mkF m 102 #[.val (.int p1), .val (.long q1), .second, .val (.long q2), .second, .val (.long q3), .second, .val (.int p2), .val (.int (3 : Int32)), .val (.long v2), .second, .val (.long v3), .second, .val (.long v4), .second, .val (.long v5), .second, .val (.long v4), .second, .unset, .unset] [(.ref b21)]))
      refine g_astore X21 hx hby at_102 (pc' := 104) rfl rfl (L' := #[.val (.int p1), .val (.long q1), .second, .val (.long q2), .second, .val (.long q3), .second, .val (.int p2), .val (.int (3 : Int32)), .val (.long v2), .second, .val (.long v3), .second, .val (.long v4), .second, .val (.long v5), .second, .val (.long v4), .second, .val (.ref b21), .unset]) rfl ?_
      refine g_iload X21 hx hby at_104 (pc' := 106) rfl rfl ?_
      have hc106 : (0 : Int) < (3 : Int) := by decide
      refine g_ifNo X21 hx hby at_106 (pc' := 109) (tlt (show (0 : Int32) < (3 : Int32) from Int32.lt_iff_toInt_lt.mpr hc106)).2.2.2 rfl ?_
      refine g_aload X21 hx hby at_109 (pc' := 111) rfl rfl rfl ?_
      refine g_iconst X21 hx hby at_111 (pc' := 112) rfl (z := (0 : Int32)) rfl ?_
      refine g_lload X21 hx hby at_112 (pc' := 114) rfl rfl ?_
      refine g_l2i X21 hx hby at_114 (pc' := 115) rfl rfl ?_
      refine Go.iastore X21 hx hZ e21 V23 (k := 0) rfl (by decide) (hb hby at_115) ?_
      intro T24 h24 X24 e24 W24 V24
      show Go p.tables e below s _ _ _ (T24.setTop (mkF m 116 #[.val (.int p1), .val (.long q1), .second, .val (.long q2), .second, .val (.long q3), .second, .val (.int p2), .val (.int (3 : Int32)), .val (.long v2), .second, .val (.long v3), .second, .val (.long v4), .second, .val (.long v5), .second, .val (.long v4), .second, .val (.ref b21), .unset] []))
      refine g_iload X24 hx hby at_116 (pc' := 118) rfl rfl ?_
      refine g_iconst X24 hx hby at_118 (pc' := 119) rfl (z := (1 : Int32)) rfl ?_
      have hc119 : (1 : Int) < (3 : Int) := by decide
      refine g_icmpNo X24 hx hby at_119 (pc' := 122) (tlt (show (1 : Int32) < (3 : Int32) from Int32.lt_iff_toInt_lt.mpr hc119)).2.2.2 rfl ?_
      refine g_aload X24 hx hby at_122 (pc' := 124) rfl rfl rfl ?_
      refine g_iconst X24 hx hby at_124 (pc' := 125) rfl (z := (1 : Int32)) rfl ?_
      refine g_lload X24 hx hby at_125 (pc' := 127) rfl rfl ?_
      refine g_l2i X24 hx hby at_127 (pc' := 128) rfl rfl ?_
      refine Go.iastore X24 hx hZ e24 V24 (k := 1) rfl (by decide) (hb hby at_128) ?_
      intro T25 h25 X25 e25 W25 V25
      show Go p.tables e below s _ _ _ (T25.setTop (mkF m 129 #[.val (.int p1), .val (.long q1), .second, .val (.long q2), .second, .val (.long q3), .second, .val (.int p2), .val (.int (3 : Int32)), .val (.long v2), .second, .val (.long v3), .second, .val (.long v4), .second, .val (.long v5), .second, .val (.long v4), .second, .val (.ref b21), .unset] []))
      refine g_iload X25 hx hby at_129 (pc' := 131) rfl rfl ?_
      refine g_iconst X25 hx hby at_131 (pc' := 132) rfl (z := (2 : Int32)) rfl ?_
      have hc132 : (2 : Int) < (3 : Int) := by decide
      refine g_icmpNo X25 hx hby at_132 (pc' := 135) (tlt (show (2 : Int32) < (3 : Int32) from Int32.lt_iff_toInt_lt.mpr hc132)).2.2.2 rfl ?_
      refine g_aload X25 hx hby at_135 (pc' := 137) rfl rfl rfl ?_
      refine g_iconst X25 hx hby at_137 (pc' := 138) rfl (z := (2 : Int32)) rfl ?_
      refine g_lload X25 hx hby at_138 (pc' := 140) rfl rfl ?_
      refine g_l2i X25 hx hby at_140 (pc' := 141) rfl rfl ?_
      refine Go.iastore X25 hx hZ e25 V25 (k := 2) rfl (by decide) (hb hby at_141) ?_
      intro T26 h26 X26 e26 W26 V26
      have z27 : n0 ≤ h26.size := (Nat.le_trans (Nat.le_trans (Nat.le_trans (Nat.le_trans Z0 E21.1) (Nat.le_of_eq (Wr.size W24).symm)) (Nat.le_of_eq (Wr.size W25).symm)) (Nat.le_of_eq (Wr.size W26).symm))
      show Go p.tables e below s _ _ _ (T26.setTop (mkF m 142 #[.val (.int p1), .val (.long q1), .second, .val (.long q2), .second, .val (.long q3), .second, .val (.int p2), .val (.int (3 : Int32)), .val (.long v2), .second, .val (.long v3), .second, .val (.long v4), .second, .val (.long v5), .second, .val (.long v4), .second, .val (.ref b21), .unset] []))
      refine g_iload X26 hx hby at_142 (pc' := 144) rfl rfl ?_
      refine g_iconst X26 hx hby at_144 (pc' := 145) rfl (z := (3 : Int32)) rfl ?_
      have hc145 : ¬ ((3 : Int) < (3 : Int)) := by decide
      refine g_icmpYes X26 hx hby at_145 (pc' := 155) (flt (show ¬ ((3 : Int32) < (3 : Int32)) from fun q => hc145 (Int32.lt_iff_toInt_lt.mp q))).2.2.2 (by decide) (by decide) ?_
      refine g_aload X26 hx hby at_155 (pc' := 157) rfl rfl rfl ?_
      have y0 : (v2.toInt32).toInt < (v3.toInt32).toInt := by have : ((v2.toInt32).toInt - v2.toInt) % 4294967296 = 0 := c_l2i _; have : -2147483648 ≤ (v2.toInt32).toInt ∧ (v2.toInt32).toInt < 2147483648 := rng32 _; have : -9223372036854775808 ≤ v2.toInt ∧ v2.toInt < 9223372036854775808 := rng64 _; have : ((v3.toInt32).toInt - v3.toInt) % 4294967296 = 0 := c_l2i _; have : -2147483648 ≤ (v3.toInt32).toInt ∧ (v3.toInt32).toInt < 2147483648 := rng32 _; have : -9223372036854775808 ≤ v3.toInt ∧ v3.toInt < 9223372036854775808 := rng64 _; omega
      have y1 : (v3.toInt32).toInt < (v4.toInt32).toInt := by have : ((v3.toInt32).toInt - v3.toInt) % 4294967296 = 0 := c_l2i _; have : -2147483648 ≤ (v3.toInt32).toInt ∧ (v3.toInt32).toInt < 2147483648 := rng32 _; have : -9223372036854775808 ≤ v3.toInt ∧ v3.toInt < 9223372036854775808 := rng64 _; have : ((v4.toInt32).toInt - v4.toInt) % 4294967296 = 0 := c_l2i _; have : -2147483648 ≤ (v4.toInt32).toInt ∧ (v4.toInt32).toInt < 2147483648 := rng32 _; have : -9223372036854775808 ≤ v4.toInt ∧ v4.toInt < 9223372036854775808 := rng64 _; omega
      refine Go.callS X26 hx hZ (y := (⟨"trimwire/service/Factor", "requireAscending", "([I)V"⟩ : MethodName)) hown (wi hw 4 rfl) (wi hw 5 rfl) (wi hw 6 rfl) (wi hw 7 rfl) (by decide) e26 (argsL := [(.ref b21)]) (rest := []) (W := 0) (rm1_3 l Z a0 hw b21 (upI (upI (upI (fun _ => (0 : Int32)) 0 (v2.toInt32)) 1 (v3.toInt32)) 2 (v4.toInt32)) h26 n0 z27 V26 y0 y1) (hb hby at_157) (by rw [hml]; rfl) rfl pd_ayIzV rfl rfl (by decide) (by decide) (by decide) (by decide) ?_
      intro v28 T28 L28 X28 hQ28
      obtain ⟨rfl, Nq28, hh28⟩ := hQ28
      have N28 := Fr.app (Fr.snoc X26 (Fr.snoc X25 (Fr.snoc X24 N0 g22) g22) g22) Nq28
      show Go p.tables e below s _ _ _ (T28.setTop (mkF m 160 #[.val (.int p1), .val (.long q1), .second, .val (.long q2), .second, .val (.long q3), .second, .val (.int p2), .val (.int (3 : Int32)), .val (.long v2), .second, .val (.long v3), .second, .val (.long v4), .second, .val (.long v5), .second, .val (.long v4), .second, .val (.ref b21), .unset] []))
      refine g_aload X28 hx hby at_160 (pc' := 162) rfl rfl rfl ?_
      refine Go.alen X28 hx hZ hh28 V26 (hb hby at_162) ?_
      show Go p.tables e below s _ _ _ (T28.setTop (mkF m 163 #[.val (.int p1), .val (.long q1), .second, .val (.long q2), .second, .val (.long q3), .second, .val (.int p2), .val (.int (3 : Int32)), .val (.long v2), .second, .val (.long v3), .second, .val (.long v4), .second, .val (.long v5), .second, .val (.long v4), .second, .val (.ref b21), .unset] [(.int (3 : Int32))]))
      refine g_iload X28 hx hby at_163 (pc' := 165) rfl rfl ?_
      have hc165 : (3 : Int) = (3 : Int) := by decide
      refine g_icmpNo X28 hx hby at_165 (pc' := 168) (teq (show (3 : Int32) = (3 : Int32) from Int32.toInt_inj.mp hc165)).2 rfl ?_
      refine g_iconst X28 hx hby at_168 (pc' := 169) rfl (z := (1 : Int32)) rfl ?_
      refine g_goto X28 hx hby at_169 (pc' := 173) (by decide) (by decide) ?_
      refine g_istore X28 hx hby at_173 (pc' := 175) rfl (L' := #[.val (.int p1), .val (.long q1), .second, .val (.long q2), .second, .val (.long q3), .second, .val (.int p2), .val (.int (3 : Int32)), .val (.long v2), .second, .val (.long v3), .second, .val (.long v4), .second, .val (.long v5), .second, .val (.long v4), .second, .val (.ref b21), .val (.int (1 : Int32))]) rfl ?_
      refine g_iload X28 hx hby at_175 (pc' := 177) rfl rfl ?_
      have hc177 : (0 : Int) < (3 : Int) := by decide
      refine g_ifNo X28 hx hby at_177 (pc' := 180) (tlt (show (0 : Int32) < (3 : Int32) from Int32.lt_iff_toInt_lt.mpr hc177)).2.2.2 rfl ?_
      refine g_iload X28 hx hby at_180 (pc' := 182) rfl rfl ?_
      have hc182 : ¬ ((1 : Int) = (0 : Int)) := by decide
      refine g_ifNo X28 hx hby at_182 (pc' := 185) (feq (show ¬ ((1 : Int32) = (0 : Int32)) from fun q => hc182 (congrArg Int32.toInt q))).1 rfl ?_
      refine g_aload X28 hx hby at_185 (pc' := 187) rfl rfl rfl ?_
      refine g_iconst X28 hx hby at_187 (pc' := 188) rfl (z := (0 : Int32)) rfl ?_
      refine Go.iaload X28 hx hZ hh28 V26 (k := 0) rfl (by decide) (hb hby at_188) ?_
      show Go p.tables e below s _ _ _ (T28.setTop (mkF m 189 #[.val (.int p1), .val (.long q1), .second, .val (.long q2), .second, .val (.long q3), .second, .val (.int p2), .val (.int (3 : Int32)), .val (.long v2), .second, .val (.long v3), .second, .val (.long v4), .second, .val (.long v5), .second, .val (.long v4), .second, .val (.ref b21), .val (.int (1 : Int32))] [(.int (v2.toInt32))]))
      refine g_lload X28 hx hby at_189 (pc' := 191) rfl rfl ?_
      refine g_l2i X28 hx hby at_191 (pc' := 192) rfl rfl ?_
      have hc192 : (v2.toInt32).toInt = (v2.toInt32).toInt := rfl
      refine g_icmpNo X28 hx hby at_192 (pc' := 195) (teq (show (v2.toInt32) = (v2.toInt32) from Int32.toInt_inj.mp hc192)).2 rfl ?_
      refine g_iconst X28 hx hby at_195 (pc' := 196) rfl (z := (1 : Int32)) rfl ?_
      refine g_goto X28 hx hby at_196 (pc' := 200) (by decide) (by decide) ?_
      refine g_istore X28 hx hby at_200 (pc' := 202) rfl (L' := #[.val (.int p1), .val (.long q1), .second, .val (.long q2), .second, .val (.long q3), .second, .val (.int p2), .val (.int (3 : Int32)), .val (.long v2), .second, .val (.long v3), .second, .val (.long v4), .second, .val (.long v5), .second, .val (.long v4), .second, .val (.ref b21), .val (.int (1 : Int32))]) rfl ?_
      refine g_iload X28 hx hby at_202 (pc' := 204) rfl rfl ?_
      refine g_iconst X28 hx hby at_204 (pc' := 205) rfl (z := (1 : Int32)) rfl ?_
      have hc205 : (1 : Int) < (3 : Int) := by decide
      refine g_icmpNo X28 hx hby at_205 (pc' := 208) (tlt (show (1 : Int32) < (3 : Int32) from Int32.lt_iff_toInt_lt.mpr hc205)).2.2.2 rfl ?_
      refine g_iload X28 hx hby at_208 (pc' := 210) rfl rfl ?_
      have hc210 : ¬ ((1 : Int) = (0 : Int)) := by decide
      refine g_ifNo X28 hx hby at_210 (pc' := 213) (feq (show ¬ ((1 : Int32) = (0 : Int32)) from fun q => hc210 (congrArg Int32.toInt q))).1 rfl ?_
      refine g_aload X28 hx hby at_213 (pc' := 215) rfl rfl rfl ?_
      refine g_iconst X28 hx hby at_215 (pc' := 216) rfl (z := (1 : Int32)) rfl ?_
      refine Go.iaload X28 hx hZ hh28 V26 (k := 1) rfl (by decide) (hb hby at_216) ?_
      show Go p.tables e below s _ _ _ (T28.setTop (mkF m 217 #[.val (.int p1), .val (.long q1), .second, .val (.long q2), .second, .val (.long q3), .second, .val (.int p2), .val (.int (3 : Int32)), .val (.long v2), .second, .val (.long v3), .second, .val (.long v4), .second, .val (.long v5), .second, .val (.long v4), .second, .val (.ref b21), .val (.int (1 : Int32))] [(.int (v3.toInt32))]))
      refine g_lload X28 hx hby at_217 (pc' := 219) rfl rfl ?_
      refine g_l2i X28 hx hby at_219 (pc' := 220) rfl rfl ?_
      have hc220 : (v3.toInt32).toInt = (v3.toInt32).toInt := rfl
      refine g_icmpNo X28 hx hby at_220 (pc' := 223) (teq (show (v3.toInt32) = (v3.toInt32) from Int32.toInt_inj.mp hc220)).2 rfl ?_
      refine g_iconst X28 hx hby at_223 (pc' := 224) rfl (z := (1 : Int32)) rfl ?_
      refine g_goto X28 hx hby at_224 (pc' := 228) (by decide) (by decide) ?_
      refine g_istore X28 hx hby at_228 (pc' := 230) rfl (L' := #[.val (.int p1), .val (.long q1), .second, .val (.long q2), .second, .val (.long q3), .second, .val (.int p2), .val (.int (3 : Int32)), .val (.long v2), .second, .val (.long v3), .second, .val (.long v4), .second, .val (.long v5), .second, .val (.long v4), .second, .val (.ref b21), .val (.int (1 : Int32))]) rfl ?_
      refine g_iload X28 hx hby at_230 (pc' := 232) rfl rfl ?_
      refine g_iconst X28 hx hby at_232 (pc' := 233) rfl (z := (2 : Int32)) rfl ?_
      have hc233 : (2 : Int) < (3 : Int) := by decide
      refine g_icmpNo X28 hx hby at_233 (pc' := 236) (tlt (show (2 : Int32) < (3 : Int32) from Int32.lt_iff_toInt_lt.mpr hc233)).2.2.2 rfl ?_
      refine g_iload X28 hx hby at_236 (pc' := 238) rfl rfl ?_
      have hc238 : ¬ ((1 : Int) = (0 : Int)) := by decide
      refine g_ifNo X28 hx hby at_238 (pc' := 241) (feq (show ¬ ((1 : Int32) = (0 : Int32)) from fun q => hc238 (congrArg Int32.toInt q))).1 rfl ?_
      refine g_aload X28 hx hby at_241 (pc' := 243) rfl rfl rfl ?_
      refine g_iconst X28 hx hby at_243 (pc' := 244) rfl (z := (2 : Int32)) rfl ?_
      refine Go.iaload X28 hx hZ hh28 V26 (k := 2) rfl (by decide) (hb hby at_244) ?_
      show Go p.tables e below s _ _ _ (T28.setTop (mkF m 245 #[.val (.int p1), .val (.long q1), .second, .val (.long q2), .second, .val (.long q3), .second, .val (.int p2), .val (.int (3 : Int32)), .val (.long v2), .second, .val (.long v3), .second, .val (.long v4), .second, .val (.long v5), .second, .val (.long v4), .second, .val (.ref b21), .val (.int (1 : Int32))] [(.int (v4.toInt32))]))
      refine g_lload X28 hx hby at_245 (pc' := 247) rfl rfl ?_
      refine g_l2i X28 hx hby at_247 (pc' := 248) rfl rfl ?_
      have hc248 : (v4.toInt32).toInt = (v4.toInt32).toInt := rfl
      refine g_icmpNo X28 hx hby at_248 (pc' := 251) (teq (show (v4.toInt32) = (v4.toInt32) from Int32.toInt_inj.mp hc248)).2 rfl ?_
      refine g_iconst X28 hx hby at_251 (pc' := 252) rfl (z := (1 : Int32)) rfl ?_
      refine g_goto X28 hx hby at_252 (pc' := 256) (by decide) (by decide) ?_
      refine g_istore X28 hx hby at_256 (pc' := 258) rfl (L' := #[.val (.int p1), .val (.long q1), .second, .val (.long q2), .second, .val (.long q3), .second, .val (.int p2), .val (.int (3 : Int32)), .val (.long v2), .second, .val (.long v3), .second, .val (.long v4), .second, .val (.long v5), .second, .val (.long v4), .second, .val (.ref b21), .val (.int (1 : Int32))]) rfl ?_
      refine g_iload X28 hx hby at_258 (pc' := 260) rfl rfl ?_
      refine g_iconst X28 hx hby at_260 (pc' := 261) rfl (z := (3 : Int32)) rfl ?_
      have hc261 : ¬ ((3 : Int) < (3 : Int)) := by decide
      refine g_icmpYes X28 hx hby at_261 (pc' := 286) (flt (show ¬ ((3 : Int32) < (3 : Int32)) from fun q => hc261 (Int32.lt_iff_toInt_lt.mp q))).2.2.2 (by decide) (by decide) ?_
      refine g_iload X28 hx hby at_286 (pc' := 288) rfl rfl ?_
      refine Go.retZ X28 hx hlk hret (by simp) (hb hby at_288) (by decide) (by decide) ?_
      exact ⟨rfl, N28⟩
  · show Go p.tables e below s _ _ _ (T0.setTop (mkF m 50 #[.val (.int p1), .val (.long q1), .second, .val (.long q2), .second, .val (.long q3), .second, .val (.int p2), .val (.int (4 : Int32)), .val (.long v2), .second, .val (.long v3), .second, .val (.long v4), .second, .val (.long v5), .second, .unset, .unset, .unset, .unset] []))
    refine g_iload X0 hx hby at_50 (pc' := 52) rfl rfl ?_
    refine g_iconst X0 hx hby at_52 (pc' := 53) rfl (z := (4 : Int32)) rfl ?_
    have hc53 : (4 : Int) = (4 : Int) := by decide
    refine g_icmpNo X0 hx hby at_53 (pc' := 56) (teq (show (4 : Int32) = (4 : Int32) from Int32.toInt_inj.mp hc53)).2 rfl ?_
    refine g_lload X0 hx hby at_56 (pc' := 58) rfl rfl ?_
    refine g_goto X0 hx hby at_58 (pc' := 85) (by decide) (by decide) ?_
    refine g_lstore X0 hx hby at_85 (pc' := 87) rfl (L' := #[.val (.int p1), .val (.long q1), .second, .val (.long q2), .second, .val (.long q3), .second, .val (.int p2), .val (.int (4 : Int32)), .val (.long v2), .second, .val (.long v3), .second, .val (.long v4), .second, .val (.long v5), .second, .val (.long v5), .second, .unset, .unset]) rfl ?_
    refine g_lload X0 hx hby at_87 (pc' := 89) rfl rfl ?_
    refine g_ldcL X0 hx hby hZ hown (wi hw 2 rfl) at_89 (pc' := 92) rfl ?_
    refine g_lcmp X0 hx hby at_92 (pc' := 93) rfl  ?_
    by_cases hc93 : (2147483647 : Int) < v5.toInt
    · refine g_ifNo X0 hx hby at_93 (pc' := 96) (tlt (show (0 : Int32) < (lcmpW v5 (2147483647 : Int64)) from (lw_gt v5 (2147483647 : Int64)).mpr (Int64.lt_iff_toInt_lt.mpr hc93))).2.2.2 rfl ?_
      refine g_iconst X0 hx hby at_96 (pc' := 97) rfl (z := (1 : Int32)) rfl ?_
      refine Go.retZ X0 hx hlk hret (by simp) (hb hby at_97) (by decide) (by decide) ?_
      exact ⟨rfl, N0⟩
    · refine g_ifYes X0 hx hby at_93 (pc' := 98) (flt (show ¬ ((0 : Int32) < (lcmpW v5 (2147483647 : Int64))) from fun q => hc93 (Int64.lt_iff_toInt_lt.mp ((lw_gt v5 (2147483647 : Int64)).mp q)))).2.2.2 (by decide) (by decide) ?_
      refine g_iload X0 hx hby at_98 (pc' := 100) rfl rfl ?_
      refine Go.newarr X0 hx hZ (n := 4) (cap := 4) (ty := .int) rfl (wi hw 3 rfl) e0 (by decide) rfl (by decide) (by decide) (by decide) (by decide) (hb hby at_100) ?_
      intro T29 h29 b29 X29 e29 E29 hb29 V29
      have g30 : n0 ≤ b29 := by rw [hb29]; exact Z0
      have V31 : ArF Z h29 b29 .int 4 (fun i => .int ((fun _ => (0 : Int32)) i)) := V29
      show Go p.tables e below s _ _ _ (T29.setTop (mkF m 102 #[.val (.int p1), .val (.long q1), .second, .val (.long q2), .second, .val (.long q3), .second, .val (.int p2), .val (.int (4 : Int32)), .val (.long v2), .second, .val (.long v3), .second, .val (.long v4), .second, .val (.long v5), .second, .val (.long v5), .second, .unset, .unset] [(.ref b29)]))
      refine g_astore X29 hx hby at_102 (pc' := 104) rfl rfl (L' := #[.val (.int p1), .val (.long q1), .second, .val (.long q2), .second, .val (.long q3), .second, .val (.int p2), .val (.int (4 : Int32)), .val (.long v2), .second, .val (.long v3), .second, .val (.long v4), .second, .val (.long v5), .second, .val (.long v5), .second, .val (.ref b29), .unset]) rfl ?_
      refine g_iload X29 hx hby at_104 (pc' := 106) rfl rfl ?_
      have hc106 : (0 : Int) < (4 : Int) := by decide
      refine g_ifNo X29 hx hby at_106 (pc' := 109) (tlt (show (0 : Int32) < (4 : Int32) from Int32.lt_iff_toInt_lt.mpr hc106)).2.2.2 rfl ?_
      refine g_aload X29 hx hby at_109 (pc' := 111) rfl rfl rfl ?_
      refine g_iconst X29 hx hby at_111 (pc' := 112) rfl (z := (0 : Int32)) rfl ?_
      refine g_lload X29 hx hby at_112 (pc' := 114) rfl rfl ?_
      refine g_l2i X29 hx hby at_114 (pc' := 115) rfl rfl ?_
      refine Go.iastore X29 hx hZ e29 V31 (k := 0) rfl (by decide) (hb hby at_115) ?_
      intro T32 h32 X32 e32 W32 V32
      show Go p.tables e below s _ _ _ (T32.setTop (mkF m 116 #[.val (.int p1), .val (.long q1), .second, .val (.long q2), .second, .val (.long q3), .second, .val (.int p2), .val (.int (4 : Int32)), .val (.long v2), .second, .val (.long v3), .second, .val (.long v4), .second, .val (.long v5), .second, .val (.long v5), .second, .val (.ref b29), .unset] []))
      refine g_iload X32 hx hby at_116 (pc' := 118) rfl rfl ?_
      refine g_iconst X32 hx hby at_118 (pc' := 119) rfl (z := (1 : Int32)) rfl ?_
      have hc119 : (1 : Int) < (4 : Int) := by decide
      refine g_icmpNo X32 hx hby at_119 (pc' := 122) (tlt (show (1 : Int32) < (4 : Int32) from Int32.lt_iff_toInt_lt.mpr hc119)).2.2.2 rfl ?_
      refine g_aload X32 hx hby at_122 (pc' := 124) rfl rfl rfl ?_
      refine g_iconst X32 hx hby at_124 (pc' := 125) rfl (z := (1 : Int32)) rfl ?_
      refine g_lload X32 hx hby at_125 (pc' := 127) rfl rfl ?_
      refine g_l2i X32 hx hby at_127 (pc' := 128) rfl rfl ?_
      refine Go.iastore X32 hx hZ e32 V32 (k := 1) rfl (by decide) (hb hby at_128) ?_
      intro T33 h33 X33 e33 W33 V33
      show Go p.tables e below s _ _ _ (T33.setTop (mkF m 129 #[.val (.int p1), .val (.long q1), .second, .val (.long q2), .second, .val (.long q3), .second, .val (.int p2), .val (.int (4 : Int32)), .val (.long v2), .second, .val (.long v3), .second, .val (.long v4), .second, .val (.long v5), .second, .val (.long v5), .second, .val (.ref b29), .unset] []))
      refine g_iload X33 hx hby at_129 (pc' := 131) rfl rfl ?_
      refine g_iconst X33 hx hby at_131 (pc' := 132) rfl (z := (2 : Int32)) rfl ?_
      have hc132 : (2 : Int) < (4 : Int) := by decide
      refine g_icmpNo X33 hx hby at_132 (pc' := 135) (tlt (show (2 : Int32) < (4 : Int32) from Int32.lt_iff_toInt_lt.mpr hc132)).2.2.2 rfl ?_
      refine g_aload X33 hx hby at_135 (pc' := 137) rfl rfl rfl ?_
      refine g_iconst X33 hx hby at_137 (pc' := 138) rfl (z := (2 : Int32)) rfl ?_
      refine g_lload X33 hx hby at_138 (pc' := 140) rfl rfl ?_
      refine g_l2i X33 hx hby at_140 (pc' := 141) rfl rfl ?_
      refine Go.iastore X33 hx hZ e33 V33 (k := 2) rfl (by decide) (hb hby at_141) ?_
      intro T34 h34 X34 e34 W34 V34
      have z35 : n0 ≤ h34.size := (Nat.le_trans (Nat.le_trans (Nat.le_trans (Nat.le_trans Z0 E29.1) (Nat.le_of_eq (Wr.size W32).symm)) (Nat.le_of_eq (Wr.size W33).symm)) (Nat.le_of_eq (Wr.size W34).symm))
      show Go p.tables e below s _ _ _ (T34.setTop (mkF m 142 #[.val (.int p1), .val (.long q1), .second, .val (.long q2), .second, .val (.long q3), .second, .val (.int p2), .val (.int (4 : Int32)), .val (.long v2), .second, .val (.long v3), .second, .val (.long v4), .second, .val (.long v5), .second, .val (.long v5), .second, .val (.ref b29), .unset] []))
      refine g_iload X34 hx hby at_142 (pc' := 144) rfl rfl ?_
      refine g_iconst X34 hx hby at_144 (pc' := 145) rfl (z := (3 : Int32)) rfl ?_
      have hc145 : (3 : Int) < (4 : Int) := by decide
      refine g_icmpNo X34 hx hby at_145 (pc' := 148) (tlt (show (3 : Int32) < (4 : Int32) from Int32.lt_iff_toInt_lt.mpr hc145)).2.2.2 rfl ?_
      refine g_aload X34 hx hby at_148 (pc' := 150) rfl rfl rfl ?_
      refine g_iconst X34 hx hby at_150 (pc' := 151) rfl (z := (3 : Int32)) rfl ?_
      refine g_lload X34 hx hby at_151 (pc' := 153) rfl rfl ?_
      refine g_l2i X34 hx hby at_153 (pc' := 154) rfl rfl ?_
      refine Go.iastore X34 hx hZ e34 V34 (k := 3) rfl (by decide) (hb hby at_154) ?_
      intro T36 h36 X36 e36 W36 V36
      show Go p.tables e below s _ _ _ (T36.setTop (mkF m 155 #[.val (.int p1), .val (.long q1), .second, .val (.long q2), .second, .val (.long q3), .second, .val (.int p2), .val (.int (4 : Int32)), .val (.long v2), .second, .val (.long v3), .second, .val (.long v4), .second, .val (.long v5), .second, .val (.long v5), .second, .val (.ref b29), .unset] []))
      refine g_aload X36 hx hby at_155 (pc' := 157) rfl rfl rfl ?_
      have y0 : (v2.toInt32).toInt < (v3.toInt32).toInt := by have : ((v2.toInt32).toInt - v2.toInt) % 4294967296 = 0 := c_l2i _; have : -2147483648 ≤ (v2.toInt32).toInt ∧ (v2.toInt32).toInt < 2147483648 := rng32 _; have : -9223372036854775808 ≤ v2.toInt ∧ v2.toInt < 9223372036854775808 := rng64 _; have : ((v3.toInt32).toInt - v3.toInt) % 4294967296 = 0 := c_l2i _; have : -2147483648 ≤ (v3.toInt32).toInt ∧ (v3.toInt32).toInt < 2147483648 := rng32 _; have : -9223372036854775808 ≤ v3.toInt ∧ v3.toInt < 9223372036854775808 := rng64 _; omega
      have y1 : (v3.toInt32).toInt < (v4.toInt32).toInt := by have : ((v3.toInt32).toInt - v3.toInt) % 4294967296 = 0 := c_l2i _; have : -2147483648 ≤ (v3.toInt32).toInt ∧ (v3.toInt32).toInt < 2147483648 := rng32 _; have : -9223372036854775808 ≤ v3.toInt ∧ v3.toInt < 9223372036854775808 := rng64 _; have : ((v4.toInt32).toInt - v4.toInt) % 4294967296 = 0 := c_l2i _; have : -2147483648 ≤ (v4.toInt32).toInt ∧ (v4.toInt32).toInt < 2147483648 := rng32 _; have : -9223372036854775808 ≤ v4.toInt ∧ v4.toInt < 9223372036854775808 := rng64 _; omega
      have y2 : (v4.toInt32).toInt < (v5.toInt32).toInt := by have : ((v4.toInt32).toInt - v4.toInt) % 4294967296 = 0 := c_l2i _; have : -2147483648 ≤ (v4.toInt32).toInt ∧ (v4.toInt32).toInt < 2147483648 := rng32 _; have : -9223372036854775808 ≤ v4.toInt ∧ v4.toInt < 9223372036854775808 := rng64 _; have : ((v5.toInt32).toInt - v5.toInt) % 4294967296 = 0 := c_l2i _; have : -2147483648 ≤ (v5.toInt32).toInt ∧ (v5.toInt32).toInt < 2147483648 := rng32 _; have : -9223372036854775808 ≤ v5.toInt ∧ v5.toInt < 9223372036854775808 := rng64 _; omega
      refine Go.callS X36 hx hZ (y := (⟨"trimwire/service/Factor", "requireAscending", "([I)V"⟩ : MethodName)) hown (wi hw 4 rfl) (wi hw 5 rfl) (wi hw 6 rfl) (wi hw 7 rfl) (by decide) e36 (argsL := [(.ref b29)]) (rest := []) (W := 0) (rm1_4 l Z a0 hw b29 (upI (upI (upI (upI (fun _ => (0 : Int32)) 0 (v2.toInt32)) 1 (v3.toInt32)) 2 (v4.toInt32)) 3 (v5.toInt32)) h36 n0 (Nat.le_trans z35 (Nat.le_of_eq (Wr.size W36).symm)) V36 y0 y1 y2) (hb hby at_157) (by rw [hml]; rfl) rfl pd_ayIzV rfl rfl (by decide) (by decide) (by decide) (by decide) ?_
      intro v37 T37 L37 X37 hQ37
      obtain ⟨rfl, Nq37, hh37⟩ := hQ37
      have N37 := Fr.app (Fr.snoc X36 (Fr.snoc X34 (Fr.snoc X33 (Fr.snoc X32 N0 g30) g30) g30) g30) Nq37
      show Go p.tables e below s _ _ _ (T37.setTop (mkF m 160 #[.val (.int p1), .val (.long q1), .second, .val (.long q2), .second, .val (.long q3), .second, .val (.int p2), .val (.int (4 : Int32)), .val (.long v2), .second, .val (.long v3), .second, .val (.long v4), .second, .val (.long v5), .second, .val (.long v5), .second, .val (.ref b29), .unset] []))
      refine g_aload X37 hx hby at_160 (pc' := 162) rfl rfl rfl ?_
      refine Go.alen X37 hx hZ hh37 V36 (hb hby at_162) ?_
      show Go p.tables e below s _ _ _ (T37.setTop (mkF m 163 #[.val (.int p1), .val (.long q1), .second, .val (.long q2), .second, .val (.long q3), .second, .val (.int p2), .val (.int (4 : Int32)), .val (.long v2), .second, .val (.long v3), .second, .val (.long v4), .second, .val (.long v5), .second, .val (.long v5), .second, .val (.ref b29), .unset] [(.int (4 : Int32))]))
      refine g_iload X37 hx hby at_163 (pc' := 165) rfl rfl ?_
      have hc165 : (4 : Int) = (4 : Int) := by decide
      refine g_icmpNo X37 hx hby at_165 (pc' := 168) (teq (show (4 : Int32) = (4 : Int32) from Int32.toInt_inj.mp hc165)).2 rfl ?_
      refine g_iconst X37 hx hby at_168 (pc' := 169) rfl (z := (1 : Int32)) rfl ?_
      refine g_goto X37 hx hby at_169 (pc' := 173) (by decide) (by decide) ?_
      refine g_istore X37 hx hby at_173 (pc' := 175) rfl (L' := #[.val (.int p1), .val (.long q1), .second, .val (.long q2), .second, .val (.long q3), .second, .val (.int p2), .val (.int (4 : Int32)), .val (.long v2), .second, .val (.long v3), .second, .val (.long v4), .second, .val (.long v5), .second, .val (.long v5), .second, .val (.ref b29), .val (.int (1 : Int32))]) rfl ?_
      refine g_iload X37 hx hby at_175 (pc' := 177) rfl rfl ?_
      have hc177 : (0 : Int) < (4 : Int) := by decide
      refine g_ifNo X37 hx hby at_177 (pc' := 180) (tlt (show (0 : Int32) < (4 : Int32) from Int32.lt_iff_toInt_lt.mpr hc177)).2.2.2 rfl ?_
      refine g_iload X37 hx hby at_180 (pc' := 182) rfl rfl ?_
      have hc182 : ¬ ((1 : Int) = (0 : Int)) := by decide
      refine g_ifNo X37 hx hby at_182 (pc' := 185) (feq (show ¬ ((1 : Int32) = (0 : Int32)) from fun q => hc182 (congrArg Int32.toInt q))).1 rfl ?_
      refine g_aload X37 hx hby at_185 (pc' := 187) rfl rfl rfl ?_
      refine g_iconst X37 hx hby at_187 (pc' := 188) rfl (z := (0 : Int32)) rfl ?_
      refine Go.iaload X37 hx hZ hh37 V36 (k := 0) rfl (by decide) (hb hby at_188) ?_
      show Go p.tables e below s _ _ _ (T37.setTop (mkF m 189 #[.val (.int p1), .val (.long q1), .second, .val (.long q2), .second, .val (.long q3), .second, .val (.int p2), .val (.int (4 : Int32)), .val (.long v2), .second, .val (.long v3), .second, .val (.long v4), .second, .val (.long v5), .second, .val (.long v5), .second, .val (.ref b29), .val (.int (1 : Int32))] [(.int (v2.toInt32))]))
      refine g_lload X37 hx hby at_189 (pc' := 191) rfl rfl ?_
      refine g_l2i X37 hx hby at_191 (pc' := 192) rfl rfl ?_
      have hc192 : (v2.toInt32).toInt = (v2.toInt32).toInt := rfl
      refine g_icmpNo X37 hx hby at_192 (pc' := 195) (teq (show (v2.toInt32) = (v2.toInt32) from Int32.toInt_inj.mp hc192)).2 rfl ?_
      refine g_iconst X37 hx hby at_195 (pc' := 196) rfl (z := (1 : Int32)) rfl ?_
      refine g_goto X37 hx hby at_196 (pc' := 200) (by decide) (by decide) ?_
      refine g_istore X37 hx hby at_200 (pc' := 202) rfl (L' := #[.val (.int p1), .val (.long q1), .second, .val (.long q2), .second, .val (.long q3), .second, .val (.int p2), .val (.int (4 : Int32)), .val (.long v2), .second, .val (.long v3), .second, .val (.long v4), .second, .val (.long v5), .second, .val (.long v5), .second, .val (.ref b29), .val (.int (1 : Int32))]) rfl ?_
      refine g_iload X37 hx hby at_202 (pc' := 204) rfl rfl ?_
      refine g_iconst X37 hx hby at_204 (pc' := 205) rfl (z := (1 : Int32)) rfl ?_
      have hc205 : (1 : Int) < (4 : Int) := by decide
      refine g_icmpNo X37 hx hby at_205 (pc' := 208) (tlt (show (1 : Int32) < (4 : Int32) from Int32.lt_iff_toInt_lt.mpr hc205)).2.2.2 rfl ?_
      refine g_iload X37 hx hby at_208 (pc' := 210) rfl rfl ?_
      have hc210 : ¬ ((1 : Int) = (0 : Int)) := by decide
      refine g_ifNo X37 hx hby at_210 (pc' := 213) (feq (show ¬ ((1 : Int32) = (0 : Int32)) from fun q => hc210 (congrArg Int32.toInt q))).1 rfl ?_
      refine g_aload X37 hx hby at_213 (pc' := 215) rfl rfl rfl ?_
      refine g_iconst X37 hx hby at_215 (pc' := 216) rfl (z := (1 : Int32)) rfl ?_
      refine Go.iaload X37 hx hZ hh37 V36 (k := 1) rfl (by decide) (hb hby at_216) ?_
      show Go p.tables e below s _ _ _ (T37.setTop (mkF m 217 #[.val (.int p1), .val (.long q1), .second, .val (.long q2), .second, .val (.long q3), .second, .val (.int p2), .val (.int (4 : Int32)), .val (.long v2), .second, .val (.long v3), .second, .val (.long v4), .second, .val (.long v5), .second, .val (.long v5), .second, .val (.ref b29), .val (.int (1 : Int32))] [(.int (v3.toInt32))]))
      refine g_lload X37 hx hby at_217 (pc' := 219) rfl rfl ?_
      refine g_l2i X37 hx hby at_219 (pc' := 220) rfl rfl ?_
      have hc220 : (v3.toInt32).toInt = (v3.toInt32).toInt := rfl
      refine g_icmpNo X37 hx hby at_220 (pc' := 223) (teq (show (v3.toInt32) = (v3.toInt32) from Int32.toInt_inj.mp hc220)).2 rfl ?_
      refine g_iconst X37 hx hby at_223 (pc' := 224) rfl (z := (1 : Int32)) rfl ?_
      refine g_goto X37 hx hby at_224 (pc' := 228) (by decide) (by decide) ?_
      refine g_istore X37 hx hby at_228 (pc' := 230) rfl (L' := #[.val (.int p1), .val (.long q1), .second, .val (.long q2), .second, .val (.long q3), .second, .val (.int p2), .val (.int (4 : Int32)), .val (.long v2), .second, .val (.long v3), .second, .val (.long v4), .second, .val (.long v5), .second, .val (.long v5), .second, .val (.ref b29), .val (.int (1 : Int32))]) rfl ?_
      refine g_iload X37 hx hby at_230 (pc' := 232) rfl rfl ?_
      refine g_iconst X37 hx hby at_232 (pc' := 233) rfl (z := (2 : Int32)) rfl ?_
      have hc233 : (2 : Int) < (4 : Int) := by decide
      refine g_icmpNo X37 hx hby at_233 (pc' := 236) (tlt (show (2 : Int32) < (4 : Int32) from Int32.lt_iff_toInt_lt.mpr hc233)).2.2.2 rfl ?_
      refine g_iload X37 hx hby at_236 (pc' := 238) rfl rfl ?_
      have hc238 : ¬ ((1 : Int) = (0 : Int)) := by decide
      refine g_ifNo X37 hx hby at_238 (pc' := 241) (feq (show ¬ ((1 : Int32) = (0 : Int32)) from fun q => hc238 (congrArg Int32.toInt q))).1 rfl ?_
      refine g_aload X37 hx hby at_241 (pc' := 243) rfl rfl rfl ?_
      refine g_iconst X37 hx hby at_243 (pc' := 244) rfl (z := (2 : Int32)) rfl ?_
      refine Go.iaload X37 hx hZ hh37 V36 (k := 2) rfl (by decide) (hb hby at_244) ?_
      show Go p.tables e below s _ _ _ (T37.setTop (mkF m 245 #[.val (.int p1), .val (.long q1), .second, .val (.long q2), .second, .val (.long q3), .second, .val (.int p2), .val (.int (4 : Int32)), .val (.long v2), .second, .val (.long v3), .second, .val (.long v4), .second, .val (.long v5), .second, .val (.long v5), .second, .val (.ref b29), .val (.int (1 : Int32))] [(.int (v4.toInt32))]))
      refine g_lload X37 hx hby at_245 (pc' := 247) rfl rfl ?_
      refine g_l2i X37 hx hby at_247 (pc' := 248) rfl rfl ?_
      have hc248 : (v4.toInt32).toInt = (v4.toInt32).toInt := rfl
      refine g_icmpNo X37 hx hby at_248 (pc' := 251) (teq (show (v4.toInt32) = (v4.toInt32) from Int32.toInt_inj.mp hc248)).2 rfl ?_
      refine g_iconst X37 hx hby at_251 (pc' := 252) rfl (z := (1 : Int32)) rfl ?_
      refine g_goto X37 hx hby at_252 (pc' := 256) (by decide) (by decide) ?_
      refine g_istore X37 hx hby at_256 (pc' := 258) rfl (L' := #[.val (.int p1), .val (.long q1), .second, .val (.long q2), .second, .val (.long q3), .second, .val (.int p2), .val (.int (4 : Int32)), .val (.long v2), .second, .val (.long v3), .second, .val (.long v4), .second, .val (.long v5), .second, .val (.long v5), .second, .val (.ref b29), .val (.int (1 : Int32))]) rfl ?_
      refine g_iload X37 hx hby at_258 (pc' := 260) rfl rfl ?_
      refine g_iconst X37 hx hby at_260 (pc' := 261) rfl (z := (3 : Int32)) rfl ?_
      have hc261 : (3 : Int) < (4 : Int) := by decide
      refine g_icmpNo X37 hx hby at_261 (pc' := 264) (tlt (show (3 : Int32) < (4 : Int32) from Int32.lt_iff_toInt_lt.mpr hc261)).2.2.2 rfl ?_
      refine g_iload X37 hx hby at_264 (pc' := 266) rfl rfl ?_
      have hc266 : ¬ ((1 : Int) = (0 : Int)) := by decide
      refine g_ifNo X37 hx hby at_266 (pc' := 269) (feq (show ¬ ((1 : Int32) = (0 : Int32)) from fun q => hc266 (congrArg Int32.toInt q))).1 rfl ?_
      refine g_aload X37 hx hby at_269 (pc' := 271) rfl rfl rfl ?_
      refine g_iconst X37 hx hby at_271 (pc' := 272) rfl (z := (3 : Int32)) rfl ?_
      refine Go.iaload X37 hx hZ hh37 V36 (k := 3) rfl (by decide) (hb hby at_272) ?_
      show Go p.tables e below s _ _ _ (T37.setTop (mkF m 273 #[.val (.int p1), .val (.long q1), .second, .val (.long q2), .second, .val (.long q3), .second, .val (.int p2), .val (.int (4 : Int32)), .val (.long v2), .second, .val (.long v3), .second, .val (.long v4), .second, .val (.long v5), .second, .val (.long v5), .second, .val (.ref b29), .val (.int (1 : Int32))] [(.int (v5.toInt32))]))
      refine g_lload X37 hx hby at_273 (pc' := 275) rfl rfl ?_
      refine g_l2i X37 hx hby at_275 (pc' := 276) rfl rfl ?_
      have hc276 : (v5.toInt32).toInt = (v5.toInt32).toInt := rfl
      refine g_icmpNo X37 hx hby at_276 (pc' := 279) (teq (show (v5.toInt32) = (v5.toInt32) from Int32.toInt_inj.mp hc276)).2 rfl ?_
      refine g_iconst X37 hx hby at_279 (pc' := 280) rfl (z := (1 : Int32)) rfl ?_
      refine g_goto X37 hx hby at_280 (pc' := 284) (by decide) (by decide) ?_
      refine g_istore X37 hx hby at_284 (pc' := 286) rfl (L' := #[.val (.int p1), .val (.long q1), .second, .val (.long q2), .second, .val (.long q3), .second, .val (.int p2), .val (.int (4 : Int32)), .val (.long v2), .second, .val (.long v3), .second, .val (.long v4), .second, .val (.long v5), .second, .val (.long v5), .second, .val (.ref b29), .val (.int (1 : Int32))]) rfl ?_
      refine g_iload X37 hx hby at_286 (pc' := 288) rfl rfl ?_
      refine Go.retZ X37 hx hlk hret (by simp) (hb hby at_288) (by decide) (by decide) ?_
      exact ⟨rfl, N37⟩
set_option maxRecDepth 65536 in
set_option maxHeartbeats 40000000 in
theorem comes_1 {Post : Tables → Env → Array Value → State → Outcome → State → Prop} (hpost : ∀ tb e args s v u, (limb_1_1.after args s (.returned v) u = true ∧ limb_1_2.after args s (.returned v) u = true) → FrameEnd s (.returned v) u (Jvm.fieldLocs frame_1_writes args s ++ Jvm.arrayLocs frame_1_arrays args s ++ Jvm.staticLocs frame_1_statics s) 16 128 → Post tb e args s (.returned v) u) :
    ArmFor flags0 classFile x code maxLocals ret World_1 tables_1 room_1 Calls_1 rest_1 Pre_1 Post := by
  intro l hfl _ _ p e ha hc hk s m args below hf hA hF happ hP
  obtain ⟨hcalls, hrest, hpre⟩ := hP
  obtain ⟨-, -, -, hnamed, -, -, -, hat⟩ := (Spec.applies_iff hf).mp happ
  obtain ⟨hg, hn⟩ := and_e (Cond.before_iff.mp (show (Jvm.Cond.and given_1 narrow_1).before args s = true from hpre))
  obtain ⟨g0, r0⟩ := and_e hg
  obtain ⟨g1, r1⟩ := and_e r0
  obtain ⟨g2, r2⟩ := and_e r1
  obtain ⟨g3, r3⟩ := and_e r2
  obtain ⟨g4, g5⟩ := and_e r3
  obtain ⟨w0, w1, w2, w3, w4, rfl⟩ : ∃ w0 w1 w2 w3 w4 : Value, args = #[w0, w1, w2, w3, w4] := by
    have hs : args.size = 5 := by simpa [Cond.value, given_1] using g0
    obtain ⟨L⟩ := args
    match L, hs with
    | [w0, w1, w2, w3, w4], _ => exact ⟨w0, w1, w2, w3, w4, rfl⟩
  have hw := fun d (hd : d ∈ tables_1) => atoms_spec (ws := Jvm.Cond.code x code maxLocals ret :: tables_1) hat d (List.mem_cons_of_mem _ hd)
  have hfit : Fit s := fun {y c} hc i hi => by
    obtain ⟨ha, rfl⟩ := Array.getElem?_eq_some_iff.mp hc
    have q := List.all_eq_true.mp ((Array.all_eq_true_iff_forall_mem.mp hF) _ (Array.getElem_mem ha)) i (List.mem_range.mpr hi)
    simpa [Array.getElem?_eq_getElem hi] using q
  obtain ⟨i0, ei0⟩ := is_v g1
  obtain rfl : w0 = (.int i0) := Option.some.inj ei0
  obtain ⟨i1, ei1⟩ := isL_v g2
  obtain rfl : w1 = (.long i1) := Option.some.inj ei1
  obtain ⟨i2, ei2⟩ := isL_v g3
  obtain rfl : w2 = (.long i2) := Option.some.inj ei2
  obtain ⟨i3, ei3⟩ := isL_v g4
  obtain rfl : w3 = (.long i3) := Option.some.inj ei3
  obtain ⟨i4, ei4⟩ := is_v g5
  obtain rfl : w4 = (.int i4) := Option.some.inj ei4
  obtain ⟨n, o, h1, h2, h3, _, L, rfl, ⟨rfl, N⟩, hq⟩ := rm0 l s _ hw tables_1 i0 i1 i2 i3 i4 s.heap s.heap.size (Nat.le_refl _)  p e ha hc hk s m _ below hf ((Spec.applies_iff_loose hf).mp happ).1 ⟨rfl, State.Warmed39.refl s, rfl⟩ trivial
  refine ⟨n, _, h1, h2, h3, hpost _ _ _ _ _ _ ⟨Cond.after_iff.mpr rfl, Cond.after_iff.mpr (eq_i res_at (Term.int_eval (1)) rfl)⟩ ⟨hq.1, hq.2.1, (hq.2.2.sift fun y hy => Or.inr (N y hy)).mono (by decide) (by decide)⟩⟩
theorem main_1_1 : Claimed_1_1 := comes_1 fun _ _ _ _ _ _ h hF => ⟨h.1, hF⟩
theorem main_1_2 : Claimed_1_2 := comes_1 fun _ _ _ _ _ _ h hF => ⟨h.2, hF⟩
end Jvm.Pilot.@@N@@
namespace Jvm.Pilot.@@N@@
open Jvm Jvm.ClassFile Sem Op Lib Jvm.Free Jvm.Stand Jvm.Pilot.@@N@@.Jvm.D
/-! MADE BY PROGRAM (witnessworld.py) out of the Statement's table words and the real class files: 9 classes; the members and pool entries that the words name. The judged class is class 1, her method 1. -/
namespace start1
open Jvm.ClassFile
def u (s : String) : CpInfo := .utf8 (stringToUtf16 s)
/-- a pool by its gaps: so many unusable entries, then the entry; so many at the end -/
def gap : Nat → List CpInfo → List CpInfo
  | 0, r => r
  | n + 1, r => .unusable :: gap n r
def poolList (es : List (Nat × CpInfo)) (last : Nat) : List CpInfo := es.foldr (fun e r => gap e.1 (e.2 :: r)) (gap last [])
def pool (es : List (Nat × CpInfo)) (last : Nat) : Array CpInfo := ⟨poolList es last⟩
def fileOf (pool : Array CpInfo) (this : Nat) (attrs : Array Attribute := #[]) (ms : Array MethodInfo := #[]) (fl : Nat := 33) (sup : Nat := 0) (ifs : Array Nat := #[]) (fds : Array FieldInfo := #[]) : ClassFile where
  minorVersion := 0
  majorVersion := 65
  constantPool := pool
  accessFlags := fl
  thisClass := this
  superClass := sup
  interfaces := ifs
  fields := fds
  methods := ms
  attributes := attrs
def plain (name : String) (sup : Option ClassId) : Class where
  name := name
  kind := .ordinary
  loader := none
  accessFlags := 33
  super := sup
  interfaces := #[]
  cf := none
  fields := #[]
  methods := #[]
  instanceTypes := #[]
  staticTypes := #[]
  resolved := #[]
  callSites := []
  init := .initialized
  statics := none
  mirror := none

def pool0 : Array CpInfo := pool [(5, u "<init>"), (0, u "()V"), (1, .class_ 10), (1, u "java/lang/Object")] 113

def k0m0 : Method := { name := "<init>", desc := "()V", sig := { parameters := [], returnType := none }, accessFlags := 1, code := none }
/-- java/lang/Object -/
def k0 : Class := { plain "java/lang/Object" none with
  accessFlags := 33
  interfaces := #[]
  cf := some (fileOf pool0 8 #[] #[{ accessFlags := 1, nameIndex := 5, descriptorIndex := 6, attributes := #[] }] 33 0 #[] #[])
  fields := #[]
  methods := #[k0m0]
  instanceTypes := #[]
  staticTypes := #[]
  resolved := Array.replicate 124 none
  statics := none }

def pool1 : Array CpInfo := pool [(2, .class_ 4), (1, u "java/lang/Object"), (0, u "<init>"), (0, u "()V"), (0, .integer 2147483647), (0, .long 4294967295), (3, .long 2147483647), (1, .methodref 15 16), (0, .class_ 17), (0, .nameAndType 18 19), (0, u "trimwire/service/Factor"), (0, u "requireAscending"), (0, u "([I)V"), (0, .class_ 21), (0, u "trimwire/service/FactorRequireAscendingPinLaw"), (2, u "law"), (0, u "(IJJJI)Z")] 5

def k1m0 : Method := { name := "<init>", desc := "()V", sig := { parameters := [], returnType := none }, accessFlags := 1, code := none }
def k1c1 : Code := { maxStack := 6, maxLocals := 21, code := code, exceptionTable := #[], attributes := #[] }
def k1m1 : Method := { name := "law", desc := "(IJJJI)Z", sig := { parameters := [.int, .long, .long, .long, .int], returnType := some .boolean }, accessFlags := 9, code := some k1c1 }
/-- trimwire/service/FactorRequireAscendingPinLaw -/
def k1 : Class := { plain "trimwire/service/FactorRequireAscendingPinLaw" (some 0) with
  accessFlags := 49
  interfaces := #[]
  cf := some (fileOf pool1 20 #[] #[{ accessFlags := 1, nameIndex := 5, descriptorIndex := 6, attributes := #[] }, { accessFlags := 9, nameIndex := 24, descriptorIndex := 25, attributes := #[] }] 49 2 #[] #[])
  fields := #[]
  methods := #[k1m0, k1m1]
  instanceTypes := #[]
  staticTypes := #[]
  resolved := Array.replicate 31 none
  statics := none }

def pool2 : Array CpInfo := pool [(2, .class_ 4), (1, u "java/lang/Object"), (0, u "<init>"), (0, u "()V"), (30, .class_ 39), (1, u "trimwire/service/Factor"), (30, u "requireAscending"), (0, u "([I)V")] 52

def k2m0 : Method := { name := "<init>", desc := "()V", sig := { parameters := [], returnType := none }, accessFlags := 0, code := none }
def k2c1 : Code := { maxStack := 3, maxLocals := 2, code := prog_39_method_3_code, exceptionTable := #[], attributes := #[] }
def k2m1 : Method := { name := "requireAscending", desc := "([I)V", sig := { parameters := [(.array .int)], returnType := none }, accessFlags := 8, code := some k2c1 }
/-- trimwire/service/Factor -/
def k2 : Class := { plain "trimwire/service/Factor" (some 0) with
  accessFlags := 1056
  interfaces := #[]
  cf := some (fileOf pool2 37 #[] #[{ accessFlags := 0, nameIndex := 5, descriptorIndex := 6, attributes := #[] }, { accessFlags := 8, nameIndex := 70, descriptorIndex := 71, attributes := #[] }] 1056 2 #[] #[])
  fields := #[]
  methods := #[k2m0, k2m1]
  instanceTypes := #[]
  staticTypes := #[]
  resolved := Array.replicate 124 none
  statics := none }

def pool3 : Array CpInfo := pool [(1, u "java/lang/Cloneable"), (0, .class_ 1), (0, u "java/lang/Object"), (0, .class_ 3)] 3

/-- java/lang/Cloneable -/
def k3 : Class := { plain "java/lang/Cloneable" (some 0) with
  accessFlags := 1537
  interfaces := #[]
  cf := some (fileOf pool3 2 #[] #[] 1537 4 #[] #[])
  fields := #[]
  methods := #[]
  instanceTypes := #[]
  staticTypes := #[]
  resolved := Array.replicate 8 none
  statics := none }

def pool4 : Array CpInfo := pool [(1, u "java/io/Serializable"), (0, .class_ 1), (0, u "java/lang/Object"), (0, .class_ 3)] 3

/-- java/io/Serializable -/
def k4 : Class := { plain "java/io/Serializable" (some 0) with
  accessFlags := 1537
  interfaces := #[]
  cf := some (fileOf pool4 2 #[] #[] 1537 4 #[] #[])
  fields := #[]
  methods := #[]
  instanceTypes := #[]
  staticTypes := #[]
  resolved := Array.replicate 8 none
  statics := none }

/-- the primitive byte -/
def k5 : Class := { plain "byte" none with kind := .primitive 'B', accessFlags := 0x411 }
/-- [B -/
def k6 : Class := { plain "[B" (some 0) with kind := .array 5 .byte, interfaces := #[3, 4], accessFlags := 1041 }

/-- the primitive int -/
def k7 : Class := { plain "int" none with kind := .primitive 'I', accessFlags := 0x411 }
/-- [I -/
def k8 : Class := { plain "[I" (some 0) with kind := .array 7 .int, interfaces := #[3, 4], accessFlags := 1041 }

def heap : Heap := #[]
def classes : Array Class := #[k0, k1, k2, k3, k4, k5, k6, k7, k8]
def interned : List (Array UInt16 × Addr) := []
def slotsUsed : Nat := 0
def theMethod : MethodId := ⟨1, 1⟩
def args0 : Array Value := #[.int 5, .long 7, .long 9, .long 3, .int 4]
def aboutOver (below : List Frame) : State where
  vm := { classes := classes, interned := interned.toArray }
  heap := heap
  slotsUsed := slotsUsed
  threads := #[{ frames := .invoking theMethod args0 :: below }]
def below0 : List Frame := [.native { method := ⟨0, 0⟩, args := #[] }]
def about1 : State := aboutOver below0
def p0 : Program := .bare "" "" ""
def e0 : Env := launch0.env 0 0 0
theorem w_frames : about1.frames = Frame.invoking theMethod args0 :: below0 := rfl
set_option maxRecDepth 65536 in
theorem w_args : argsFit about1.vm theMethod args0 = true := by decide +kernel
set_option maxRecDepth 65536 in
theorem w_heap : heapFits about1 = true := by decide +kernel
set_option maxRecDepth 65536 in
theorem w_runnable : about1.curStatus? = some .runnable := by decide +kernel
set_option maxRecDepth 65536 in
theorem w_alone : about1.alone = true := by decide +kernel
set_option maxRecDepth 65536 in
theorem w_named : about1.methodNamed? x = some theMethod := by decide +kernel
set_option maxRecDepth 65536 in
theorem w_hears : about1.hears theMethod below0 = true := by decide +kernel
set_option maxRecDepth 65536 in
theorem w_ripe : about1.ripe theMethod args0 below0 = true := by decide +kernel
theorem w_running : about1.status = .running := rfl
set_option maxRecDepth 65536 in
theorem w_room : about1.hasRoom e0.platform room_1 = true :=
  launch0.hasRoom_least _ room_1 (by decide +kernel) (by decide +kernel) (by decide +kernel) (by decide +kernel) (by decide +kernel) (by decide +kernel)
theorem allAtoms_all (ts : List Jvm.Cond) (a : Array Jvm.Value) (st : Jvm.State) : (allAtoms ts).before a st = ts.all (fun c => c.before a st) := by
  induction ts with
  | nil => rfl
  | cons c t ih =>
    show (Jvm.Cond.and c (allAtoms t)).before a st = _
    rw [Jvm.Cond.before_and, ih, List.all_cons]
def words1 : List Jvm.Cond := Jvm.Cond.code x code maxLocals ret :: tables_1
/-- a 'code' word, met by the world's own term for the bytes: nothing is compared byte by byte -/
theorem code_word {y : MethodName} {bytes : ByteArray} {mx : Nat} {rt : Option FieldType} {a : Array Value} {s : State} {m : MethodId} {meth : Method} {c : Code} (h1 : s.methodNamed? y = some m) (h2 : s.vm.method? m = some meth) (h3 : meth.code = some c) (h4 : c.code = bytes)
    (h5 : (c.maxLocals == mx && c.exceptionTable.isEmpty && decide (c.maxStack ≤ mostOperands) && decide (meth.sig.returnType = rt) && !meth.locks && decide (parseMethodDescriptor y.desc = some meth.sig)) = true) : (Jvm.Cond.code y bytes mx rt).before a s = true := by
  simp only [Bool.and_eq_true, beq_iff_eq, Bool.not_eq_true', decide_eq_true_eq] at h5
  obtain ⟨⟨⟨⟨⟨g1, g2⟩, g3⟩, g4⟩, g5⟩, g6⟩ := h5
  simp [Cond.before, Cond.holds, Cond.value, h1, h2, h3, h4, g1, g2, g3, g4, g5, g6]
def isCode : Jvm.Cond → Bool
  | .code _ _ _ _ => true
  | _ => false
theorem all_split {L : List Jvm.Cond} {P : Jvm.Cond → Bool} (h1 : L.all (fun c => isCode c || P c) = true) (h2 : ∀ c ∈ L.filter isCode, P c = true) : L.all P = true := by
  refine List.all_eq_true.mpr fun c hc => ?_
  have h := List.all_eq_true.mp h1 c hc
  rcases Bool.eq_false_or_eq_true (isCode c) with hi | hi
  · exact h2 c (List.mem_filter.mpr ⟨hc, hi⟩)
  · simpa [hi] using h
set_option maxRecDepth 65536 in
theorem w_c0 : (Jvm.Cond.code x code maxLocals ret).before args0 about1 = true := code_word (m := ⟨1, 1⟩) (meth := k1m1) (c := k1c1) (by decide +kernel) rfl rfl rfl (by decide +kernel)
set_option maxRecDepth 65536 in
theorem w_c1 : (Jvm.Cond.code ({ cls := "trimwire/service/Factor", name := "requireAscending", desc := "([I)V" } : Jvm.MethodName) prog_39_method_3_code (2 : Nat) (Option.none : Option Jvm.ClassFile.FieldType)).before args0 about1 = true := code_word (m := ⟨2, 1⟩) (meth := k2m1) (c := k2c1) (by decide +kernel) rfl rfl rfl (by decide +kernel)
def codes1 : List Jvm.Cond := [Jvm.Cond.code x code maxLocals ret, Jvm.Cond.code ({ cls := "trimwire/service/Factor", name := "requireAscending", desc := "([I)V" } : Jvm.MethodName) prog_39_method_3_code (2 : Nat) (Option.none : Option Jvm.ClassFile.FieldType)]
set_option maxRecDepth 65536 in
theorem codes_eq : words1.filter isCode = codes1 := rfl
theorem w_codes : ∀ c ∈ words1.filter isCode, c.before args0 about1 = true := by
  rw [codes_eq]
  intro c hc
  simp only [codes1, List.mem_cons, List.not_mem_nil, or_false] at hc
  rcases hc with rfl | rfl
  · exact w_c0
  · exact w_c1
set_option maxRecDepth 65536 in
theorem w_t1 : words1.all (fun c => isCode c || c.before args0 about1) = true := by decide +kernel
theorem w_tables : (allAtoms (Jvm.Cond.code x code maxLocals ret :: tables_1)).before args0 about1 = true := by
  rw [allAtoms_all]
  show words1.all (fun c => c.before args0 about1) = true
  refine all_split ?_ w_codes
  rw [w_t1]
set_option maxRecDepth 65536 in
theorem w_case : (Jvm.Cond.and given_1 narrow_1).before args0 about1 = true := by decide +kernel
theorem w_applies : (headSpec (Jvm.Cond.code x code maxLocals ret :: tables_1) room_1).applies x e0.platform about1 = true :=
  (Spec.applies_iff w_frames).mpr ⟨w_running, w_runnable, w_alone, w_named, w_hears, w_ripe, w_room, w_tables⟩
theorem atStart : AtStart classFile x code maxLocals ret World_1 tables_1 room_1 Calls_1 rest_1 Pre_1 launch0 p0 e0 about1 theMethod args0 below0 :=
  ⟨lists_1, trivial, launch0.admits_env _ _ _, launch0.least_env, fairChoices_fair.cas, fairChoices_fair.clock, w_frames, w_args, w_heap, w_applies, trivial, trivial, w_case⟩
end start1
theorem witness_1 : WitnessClaimed_1 := ⟨start1.p0, start1.e0, start1.about1, start1.theMethod, start1.args0, start1.below0, start1.atStart⟩
end Jvm.Pilot.@@N@@
