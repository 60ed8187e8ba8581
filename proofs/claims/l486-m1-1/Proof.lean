import JvmDerived
import JvmDerived.Pilot.@@N@@Statement
import JvmDerived.Pilot.@@N@@Code
set_option linter.unusedVariables false
set_option linter.unusedSimpArgs false
namespace Jvm.OwnKit
open Sem ClassFile Op Lib Jvm.Stand Jvm.Free Jvm.LawKit Jvm.RoadKit
theorem irem_mod (x y : Int32) : x - x / y * y = x % y := by
  have hm : (x % y).toInt = x.toInt - x.toInt.tdiv y.toInt * y.toInt := by
    rw [Int32.toInt_mod, Int.tmod_def, Int.mul_comm]
  have hb := Int32.toInt_lt (x % y)
  have hl := Int32.le_toInt (x % y)
  have e : (x - x / y * y).toInt = (x % y).toInt.bmod (2 ^ 32) := by
    rw [hm, Int32.toInt_sub, Int32.toInt_mul, Int32.toInt_div, Int.sub_bmod_bmod, Int.sub_eq_add_neg, Int.sub_eq_add_neg]
    rw [← Int.add_bmod_bmod, ← Int.add_bmod_bmod (y := -(x.toInt.tdiv y.toInt * y.toInt))]
    congr 2
    rw [← Int.neg_mul, ← Int.neg_mul]
    rw [← Int.bmod_mul_bmod, Int.bmod_neg_bmod, Int.bmod_mul_bmod]
  apply Int32.toInt_inj.mp
  rw [e]
  exact Int.bmod_eq_of_le_mul_two (by omega) (by omega)
/-- what a body's end says -/
def Done (s : State) (below : List Frame) (Q : Option Value → Heap → List Loc → Prop) (C S : Nat) (t : State) (o : Outcome) : Prop :=
  t.status = .running ∧ Ended t below o ∧ ∃ v L, o = .returned v ∧ Q v t.heap L ∧ FrameEnd s o t L C S
/-- from here the run ends as asked -/
def Go (tb : Tables) (e : Env) (below : List Frame) (s : State) (Q : Option Value → Heap → List Loc → Prop) (C S : Nat) (A : State) : Prop :=
  ∃ t o, Steps tb e below A t ∧ Done s below Q C S t o
theorem Go.of {tb : Tables} {e : Env} {below : List Frame} {s : State} {Q : Option Value → Heap → List Loc → Prop} {C S : Nat} {A B : State}
    (g : ∀ t, Steps tb e below B t → Steps tb e below A t) (h : Go tb e below s Q C S B) : Go tb e below s Q C S A := by
  obtain ⟨t, o, h1, h2⟩ := h
  exact ⟨t, o, g t h1, h2⟩
theorem Go.join {tb : Tables} {e : Env} {below : List Frame} {s : State} {Q : Option Value → Heap → List Loc → Prop} {C S : Nat} {A : State} {α : Type} {P : α → Prop} {F : α → State}
    (h1 : ∀ x, P x → Go tb e below s Q C S (F x)) (h2 : (∀ x, P x → Go tb e below s Q C S (F x)) → Go tb e below s Q C S A) : Go tb e below s Q C S A := h2 h1
theorem Go.loop {tb : Tables} {e : Env} {below : List Frame} {s : State} {Q : Option Value → Heap → List Loc → Prop} {C S : Nat} {α : Type} {P : Nat → α → Prop} {F : α → State}
    (h : ∀ k x, P k x → (∀ j y, j < k → P j y → Go tb e below s Q C S (F y)) → Go tb e below s Q C S (F x)) : ∀ k x, P k x → Go tb e below s Q C S (F x) := by
  intro k
  induction k using Nat.strongRecOn with
  | ind k ih => exact fun x hp => h k x hp fun j y hj hy => ih j hj y hy
section Ret
variable {p : Program} {l : Launch} {e : Env} {R : Room} {s : State} {m : MethodId} {args : Array Value} {below : List Frame} {meth : Method} {c : Code} {T : State} {locs : List Loc} {cells slots : Nat} {Q : Option Value → Heap → List Loc → Prop} {C S : Nat}
theorem Go.retV (X : Stand p l e R s m args below meth c T locs cells slots) (hx : p.tables.exec = Jvm.exec) (hlk : meth.locks = false) {pc : Nat} {Ls : Array Slot} {st : List Value} (hret : meth.sig.returnType = none)
    (hd : decode c.code pc = .ok (.return_, 1)) (hs : st = []) (hc : cells ≤ C) (hn : slots ≤ S) (hq : Q none T.heap locs) : Go p.tables e below s Q C S (T.setTop (mkF m pc Ls st)) := by
  subst hs
  obtain ⟨fs, hr, hrun, hended, hW, hsame⟩ := X.leave (v := none) (fun _ => rfl)
  exact ⟨_, _, X.returnOut hx hret hd hr, hrun, hended, _, _, rfl, hq, ⟨_, rfl⟩, hW, hsame.mono hc hn⟩
theorem Go.retW (X : Stand p l e R s m args below meth c T locs cells slots) (hx : p.tables.exec = Jvm.exec) (hlk : meth.locks = false) {pc : Nat} {Ls : Array Slot} {w : Value} {t : FieldType} {i : Instr} {rest : List Value}
    (hret : meth.sig.returnType = some t) (hn : narrow t w = w)
    (hi : (i = .ireturn ∧ (t = .int ∨ t = .boolean ∨ t = .byte ∨ t = .char ∨ t = .short) ∧ ∃ z, w = .int z) ∨ (i = .lreturn ∧ t = .long ∧ ∃ z, w = .long z) ∨ (i = .dreturn ∧ t = .double ∧ ∃ z, w = .double z) ∨ (i = .freturn ∧ t = .float ∧ ∃ z, w = .float z) ∨ (i = .areturn ∧ t.isReference = true ∧ w.isRef = true))
    (hd : decode c.code pc = .ok (i, 1)) (hc : cells ≤ C) (hsl : slots ≤ S) (hq : Q (some w) T.heap locs) : Go p.tables e below s Q C S (T.setTop (mkF m pc Ls (w :: rest))) := by
  obtain ⟨fs, hr, hrun, hended, hW, hsame⟩ := X.leave (v := some w) (fun h => by rw [hret] at h; cases h)
  exact ⟨_, _, retOut X hx hret hn hi hd hr, hrun, hended, _, _, rfl, hq, ⟨_, rfl⟩, hW, hsame.mono hc hsl⟩
theorem Go.retI (X : Stand p l e R s m args below meth c T locs cells slots) (hx : p.tables.exec = Jvm.exec) (hlk : meth.locks = false) {pc : Nat} {Ls : Array Slot} {z : Int32} {rest : List Value}
    (hret : meth.sig.returnType = some .int) (hd : decode c.code pc = .ok (.ireturn, 1)) (hc : cells ≤ C) (hsl : slots ≤ S) (hq : Q (some (.int z)) T.heap locs) : Go p.tables e below s Q C S (T.setTop (mkF m pc Ls (.int z :: rest))) :=
  Go.retW X hx hlk hret rfl (Or.inl ⟨rfl, Or.inl rfl, _, rfl⟩) hd hc hsl hq
theorem Go.retZ (X : Stand p l e R s m args below meth c T locs cells slots) (hx : p.tables.exec = Jvm.exec) (hlk : meth.locks = false) {pc : Nat} {Ls : Array Slot} {z : Int32} {rest : List Value} {t : FieldType}
    (hret : meth.sig.returnType = some t) (ht : t = .boolean ∨ t = .byte ∨ t = .char ∨ t = .short) (hd : decode c.code pc = .ok (.ireturn, 1)) (hc : cells ≤ C) (hsl : slots ≤ S) (hq : Q (some (.int (nar t z))) T.heap locs) : Go p.tables e below s Q C S (T.setTop (mkF m pc Ls (.int z :: rest))) := by
  obtain ⟨fs, hr, hrun, hended, hW, hsame⟩ := X.leave (v := some (.int (nar t z))) (fun h => by rw [hret] at h; cases h)
  exact ⟨_, _, retN X hx hret ht hd hr, hrun, hended, _, _, rfl, hq, ⟨_, rfl⟩, hW, hsame.mono hc hsl⟩
theorem Go.retL (X : Stand p l e R s m args below meth c T locs cells slots) (hx : p.tables.exec = Jvm.exec) (hlk : meth.locks = false) {pc : Nat} {Ls : Array Slot} {z : Int64} {rest : List Value}
    (hret : meth.sig.returnType = some .long) (hd : decode c.code pc = .ok (.lreturn, 1)) (hc : cells ≤ C) (hsl : slots ≤ S) (hq : Q (some (.long z)) T.heap locs) : Go p.tables e below s Q C S (T.setTop (mkF m pc Ls (.long z :: rest))) :=
  Go.retW X hx hlk hret rfl (Or.inr (Or.inl ⟨rfl, rfl, _, rfl⟩)) hd hc hsl hq
theorem Go.retA (X : Stand p l e R s m args below meth c T locs cells slots) (hx : p.tables.exec = Jvm.exec) (hlk : meth.locks = false) {pc : Nat} {Ls : Array Slot} {w : Value} {rest : List Value} {t : FieldType}
    (hret : meth.sig.returnType = some t) (ht : t.isReference = true) (hw : w.isRef = true) (hd : decode c.code pc = .ok (.areturn, 1)) (hc : cells ≤ C) (hsl : slots ≤ S) (hq : Q (some w) T.heap locs) : Go p.tables e below s Q C S (T.setTop (mkF m pc Ls (w :: rest))) :=
  Go.retW X hx hlk hret (by cases t <;> first | rfl | (simp [FieldType.isReference] at ht)) (Or.inr (Or.inr (Or.inr (Or.inr ⟨rfl, ht, hw⟩)))) hd hc hsl hq
end Ret
/-- the contract of a body, by its walk -/
theorem meet {l : Launch} {Z : State} {y : MethodName} {bytes : ByteArray} {maxL : Nat} {ret : Option FieldType} {ws : List Cond} {rm : Room} {as : Array Value} {Ls : Array Slot} {h0 : Heap} {Q : Option Value → Heap → List Loc → Prop}
    (hpl : plainFor y = true) (ef : ∀ m, entryFrame m as maxL = mkF m 0 Ls [])
    (body : ∀ (p : Program) (e : Env) (s : State) (m : MethodId) (below : List Frame) (meth : Method) (c : Code) (T : State), p.tables.exec = Jvm.exec → c.code = bytes → c.maxLocals = maxL → Z.Warmed39 s.vm → s.vm.findClass y.cls = some m.cls → meth.name = y.name →
      meth.sig.returnType = ret → meth.locks = false → Stand p l e rm s m as below meth c T [] 0 0 → T.heap = h0 → Go p.tables e below s Q rm.cells rm.slots (T.setTop (mkF m 0 Ls []))) :
    MetFree l y (head1 (Cond.code y bytes maxL ret :: ws) rm) (fun a U => a = as ∧ Z.Warmed39 U.vm ∧ U.heap = h0) (fun _ _ _ _ _ => True) (fun _ U o U' => ∃ v L, o = .returned v ∧ Q v U'.heap L ∧ FrameEnd U o U' L rm.cells rm.slots) := by
  refine MetFree.of_bodySF hpl hisR ?_
  intro p e s m args below meth c s₁ Bd hml0 hP hK
  obtain ⟨rfl, hZ, hh⟩ := hP
  obtain ⟨t, o, h1, h2, h3, h4⟩ := body p e s m below meth c s₁ Bd.exec Bd.bytes hml0 hZ (findClass_of_methodNamed Bd.named) (name_of_methodNamed Bd.named Bd.method).1 Bd.returns Bd.notSynchronized (Stand.of_body Bd) (by rw [← hh, Bd.state]; rfl)
  exact ⟨t, o, castTop (ef m) h1, h2, h3, h4⟩
/-- what a callee's contract says -/
abbrev Con (l : Launch) (Z : State) (y : MethodName) (bytes : ByteArray) (maxL : Nat) (ret : Option FieldType) (rm : Room) (as : Array Value) (h0 : Heap) (Q : Option Value → Heap → List Loc → Prop) : Prop :=
  MetFree l y (head1 [Cond.code y bytes maxL ret] rm) (fun a U => a = as ∧ Z.Warmed39 U.vm ∧ U.heap = h0) (fun _ _ _ _ _ => True) (fun _ U o U' => ∃ v L, o = .returned v ∧ Q v U'.heap L ∧ FrameEnd U o U' L rm.cells rm.slots)
section Call
variable {p : Program} {l : Launch} {e : Env} {R : Room} {s : State} {m : MethodId} {args : Array Value} {below : List Frame} {meth : Method} {c : Code} {T : State} {locs : List Loc} {cells slots : Nat} {Q : Option Value → Heap → List Loc → Prop} {C S : Nat} {Z : State} {a0 : Array Value} {h : Heap}
theorem Go.callS (X : Stand p l e R s m args below meth c T locs cells slots) (hx : p.tables.exec = Jvm.exec) (hZ : Z.Warmed39 s.vm) {own : String} {index : Nat} {y : MethodName} {bytes : ByteArray} {maxL : Nat} {ret : Option FieldType} {rm : Room} {Q' : Option Value → Heap → List Loc → Prop}
    (hown : s.vm.findClass own = some m.cls) (w1 : (Cond.methodLink own index y).before a0 Z = true) (w2 : (Cond.static y).before a0 Z = true) (w3 : (Cond.initialized y.cls).before a0 Z = true)
    (w4 : (Cond.code y bytes maxL ret).before a0 Z = true) (hy : y.cls ≠ "java/lang/invoke/MethodHandle" ∧ y.cls ≠ "java/lang/invoke/VarHandle")
    (eT : T.heap = h) {pc : Nat} {Ls : Array Slot} {argsL rest st : List Value} {W : Nat} {ps : List FieldType} (hM : Con l Z y bytes maxL ret rm argsL.toArray h Q') (hd : decode c.code pc = .ok (.invokestatic index, 3))
    (hsz : Ls.size = c.maxLocals) (hst : st = argsL.reverse ++ rest) (hpd : parseMethodDescriptor y.desc = some ⟨ps, ret⟩) (hlen : argsL.length = ps.length) (hW : (rest.map fun v => v.category).sum = W)
    (hf : rm.frames + 1 ≤ R.frames) (hl : W + (maxL + 11) + rm.locals ≤ R.locals) (hc : cells + rm.cells ≤ R.cells) (hn : slots + rm.slots ≤ R.slots)
    (k : ∀ (v : Option Value) (T' : State) (L' : List Loc), Stand p l e R s m args below meth c T' (locs ++ L') (cells + rm.cells) (slots + rm.slots) → Q' v T'.heap L' → Go p.tables e below s Q C S (T'.setTop (mkF m (pc + 3) Ls (v.toList ++ rest)))) :
    Go p.tables e below s Q C S (T.setTop (mkF m pc Ls st)) := by
  obtain ⟨v, _, ⟨T', L', kc, kn⟩, -, X', ⟨Lc, hQ, l3, y3, z3⟩, st⟩ := Jvm.LawKit.callS X hx hown (mvT hZ w1) (mvT hZ w2) (mvT hZ w3) (mvT hZ w4) hy (backOf (W := W) hM hZ w4 w3 hf hl) (g := mkF m pc Ls st) rfl hsz (argsL := argsL) (rest := rest) (lenOf hpd hlen) hst (by show 2 * 0 + _ ≤ _; rw [hW]; omega) hd (fun _ _ => ⟨rfl, eT, hc, hn⟩)
  dsimp only [Pt.U, Pt.locs, Pt.cells, Pt.slots] at X' l3 y3 z3 st hQ
  subst l3 y3 z3
  exact Go.of st (k v T' Lc X' hQ)
theorem Go.callI (X : Stand p l e R s m args below meth c T locs cells slots) (hx : p.tables.exec = Jvm.exec) (hZ : Z.Warmed39 s.vm) {own : String} {index : Nat} {y : MethodName} {bytes : ByteArray} {maxL : Nat} {rm : Room} {Q' : Option Value → Heap → List Loc → Prop}
    (hown : s.vm.findClass own = some m.cls) (hy1 : y.name = "<init>") (w1 : (Cond.methodLink own index y).before a0 Z = true) (w2 : (Cond.instanceMethod y).before a0 Z = true) (w3 : (Cond.initialized y.cls).before a0 Z = true)
    (w4 : (Cond.code y bytes maxL none).before a0 Z = true) (hy : y.cls ≠ "java/lang/invoke/MethodHandle" ∧ y.cls ≠ "java/lang/invoke/VarHandle")
    (eT : T.heap = h) {pc : Nat} {Ls : Array Slot} {a : Addr} {argsL rest st : List Value} {W : Nat} {ps : List FieldType} (hM : Con l Z y bytes maxL none rm (.ref a :: argsL).toArray h Q') (hd : decode c.code pc = .ok (.invokespecial index, 3))
    (hsz : Ls.size = c.maxLocals) (hst : st = argsL.reverse ++ .ref a :: rest) (hpd : parseMethodDescriptor y.desc = some ⟨ps, none⟩) (hlen : argsL.length = ps.length) (hW : (rest.map fun v => v.category).sum = W)
    (hf : rm.frames + 1 ≤ R.frames) (hl : W + (maxL + 11) + rm.locals ≤ R.locals) (hc : cells + rm.cells ≤ R.cells) (hn : slots + rm.slots ≤ R.slots)
    (k : ∀ (v : Option Value) (T' : State) (L' : List Loc), Stand p l e R s m args below meth c T' (locs ++ L') (cells + rm.cells) (slots + rm.slots) → Q' v T'.heap L' → Go p.tables e below s Q C S (T'.setTop (mkF m (pc + 3) Ls (v.toList ++ rest)))) :
    Go p.tables e below s Q C S (T.setTop (mkF m pc Ls st)) := by
  obtain ⟨v, _, ⟨T', L', kc, kn⟩, -, X', ⟨Lc, hQ, l3, y3, z3⟩, st⟩ := X.specialBack hx hy1 hown (mvT hZ w1) (mvT hZ w2) (mvT hZ w4) hy (backOf (W := W) hM hZ w4 w3 hf hl) (g := mkF m pc Ls st) rfl hsz (Steps.refl _) (a := a) (argsL := argsL) (rest := rest) (lenOf hpd hlen) hst (by show 2 * 0 + _ ≤ _; rw [hW]; omega) hd (fun _ _ => ⟨rfl, eT, hc, hn⟩)
  dsimp only [Pt.U, Pt.locs, Pt.cells, Pt.slots] at X' l3 y3 z3 st hQ
  subst l3 y3 z3
  exact Go.of (fun _ q => st.trans q) (k v T' Lc X' hQ)
theorem Go.callV (X : Stand p l e R s m args below meth c T locs cells slots) (hx : p.tables.exec = Jvm.exec) (hZ : Z.Warmed39 s.vm) {own K : String} {index : Nat} {y z : MethodName} {bytes : ByteArray} {maxL : Nat} {ret : Option FieldType} {rm : Room} {Q' : Option Value → Heap → List Loc → Prop}
    (hown : s.vm.findClass own = some m.cls) (w1 : (Cond.methodLink own index y).before a0 Z = true) (w2 : (Cond.declares y).before a0 Z = true) (nf : NotFace s y) (w5 : (Cond.selects K y z).before a0 Z = true) (w6 : (Cond.instanceMethod z).before a0 Z = true) (w3 : (Cond.initialized z.cls).before a0 Z = true)
    (w4 : (Cond.code z bytes maxL ret).before a0 Z = true) (hy : y.cls ≠ "java/lang/invoke/MethodHandle" ∧ y.cls ≠ "java/lang/invoke/VarHandle")
    (eT : T.heap = h) {pc : Nat} {Ls : Array Slot} {a : Addr} {argsL rest st : List Value} {W : Nat} {ps : List FieldType} {rt : Option FieldType} (E : Exa Z h a K) (hM : Con l Z z bytes maxL ret rm (.ref a :: argsL).toArray h Q') (hd : decode c.code pc = .ok (.invokevirtual index, 3))
    (hsz : Ls.size = c.maxLocals) (hst : st = argsL.reverse ++ .ref a :: rest) (hpd : parseMethodDescriptor y.desc = some ⟨ps, rt⟩) (hlen : argsL.length = ps.length) (hW : (rest.map fun v => v.category).sum = W)
    (hf : rm.frames + 1 ≤ R.frames) (hl : W + (maxL + 11) + rm.locals ≤ R.locals) (hc : cells + rm.cells ≤ R.cells) (hn : slots + rm.slots ≤ R.slots)
    (k : ∀ (v : Option Value) (T' : State) (L' : List Loc), Stand p l e R s m args below meth c T' (locs ++ L') (cells + rm.cells) (slots + rm.slots) → Q' v T'.heap L' → Go p.tables e below s Q C S (T'.setTop (mkF m (pc + 3) Ls (v.toList ++ rest)))) :
    Go p.tables e below s Q C S (T.setTop (mkF m pc Ls st)) := by
  obtain ⟨cq, kq, qa, qb, qc⟩ := isOf hZ eT E
  obtain ⟨v, _, ⟨T', L', kc, kn⟩, -, X', ⟨Lc, hQ, l3, y3, z3⟩, st⟩ := X.virtualBack hx (y := y) (z := z) hown (mvT hZ w1) (mvT hZ w2) nf (mvT hZ w5) (mvT hZ w6) hy (backOf (W := W) hM hZ w4 w3 hf hl) qa qc (g := mkF m pc Ls st) rfl hsz (Steps.refl _) (argsL := argsL) (rest := rest) (lenOf hpd hlen) hst (by show 2 * 0 + _ ≤ _; rw [hW]; omega) hd (fun _ _ => ⟨rfl, eT, hc, hn⟩)
  dsimp only [Pt.U, Pt.locs, Pt.cells, Pt.slots] at X' l3 y3 z3 st hQ
  subst l3 y3 z3
  exact Go.of (fun _ q => st.trans q) (k v T' Lc X' hQ)
/-- a private method by invokevirtual -/
theorem Go.callP (X : Stand p l e R s m args below meth c T locs cells slots) (hx : p.tables.exec = Jvm.exec) (hZ : Z.Warmed39 s.vm) {own K : String} {index : Nat} {y : MethodName} {bytes : ByteArray} {maxL : Nat} {ret : Option FieldType} {rm : Room} {Q' : Option Value → Heap → List Loc → Prop}
    (hown : s.vm.findClass own = some m.cls) (w1 : (Cond.methodLink own index y).before a0 Z = true) (w6 : (Cond.instanceMethod y).before a0 Z = true) {kk : Nat} (w5 : (Cond.instantiable y.cls kk).before a0 Z = true) (w7 : (Cond.privateMethod y).before a0 Z = true) (w3 : (Cond.initialized y.cls).before a0 Z = true)
    (w4 : (Cond.code y bytes maxL ret).before a0 Z = true) (hy : y.cls ≠ "java/lang/invoke/MethodHandle" ∧ y.cls ≠ "java/lang/invoke/VarHandle")
    (eT : T.heap = h) {pc : Nat} {Ls : Array Slot} {a : Addr} {argsL rest st : List Value} {W : Nat} {ps : List FieldType} {rt : Option FieldType} (E : Exa Z h a K) (hM : Con l Z y bytes maxL ret rm (.ref a :: argsL).toArray h Q') (hd : decode c.code pc = .ok (.invokevirtual index, 3))
    (hsz : Ls.size = c.maxLocals) (hst : st = argsL.reverse ++ .ref a :: rest) (hpd : parseMethodDescriptor y.desc = some ⟨ps, rt⟩) (hlen : argsL.length = ps.length) (hW : (rest.map fun v => v.category).sum = W)
    (hf : rm.frames + 1 ≤ R.frames) (hl : W + (maxL + 11) + rm.locals ≤ R.locals) (hc : cells + rm.cells ≤ R.cells) (hn : slots + rm.slots ≤ R.slots)
    (k : ∀ (v : Option Value) (T' : State) (L' : List Loc), Stand p l e R s m args below meth c T' (locs ++ L') (cells + rm.cells) (slots + rm.slots) → Q' v T'.heap L' → Go p.tables e below s Q C S (T'.setTop (mkF m (pc + 3) Ls (v.toList ++ rest)))) :
    Go p.tables e below s Q C S (T.setTop (mkF m pc Ls st)) := by
  obtain ⟨cq, q1, q2⟩ := E.cell
  obtain ⟨c2, k2, i1, i2, -, i4, -⟩ := Cond.instantiable_spec (mvT (args := args) hZ w5)
  have hpv : s.PrivateAt y := Cond.privateMethod_at (mvP hZ w7 (args := #[]))
  have hsel : (Cond.selects y.cls y y).before args s = true := selects_self_of_private i1 i2 (by simpa using (Bool.or_eq_false_iff.mp i4).1) hpv (mvT hZ w6) hy
  obtain ⟨v, _, ⟨T', L', kc, kn⟩, -, X', ⟨Lc, hQ, l3, y3, z3⟩, st⟩ := X.privateBack hx (y := y) hown (mvT hZ w1) (mvT hZ w6) hsel hpv (mvT hZ w4) hy (backOf (W := W) hM hZ w4 w3 hf hl) (g := mkF m pc Ls st) rfl hsz (Steps.refl _) (a := a) (by rw [eT]; exact q1) q2 (argsL := argsL) (rest := rest) (lenOf hpd hlen) hst (by show 2 * 0 + _ ≤ _; rw [hW]; omega) hd (fun _ _ => ⟨rfl, eT, hc, hn⟩)
  dsimp only [Pt.U, Pt.locs, Pt.cells, Pt.slots] at X' l3 y3 z3 st hQ
  subst l3 y3 z3
  exact Go.of (fun _ q => st.trans q) (k v T' Lc X' hQ)
end Call
/-- an array of n places, place i holding f i -/
def ArF (Z : State) (h : Heap) (a : Addr) (ty : FieldType) (n : Nat) (f : Nat → Value) : Prop :=
  ∃ cl : Cell, Arr Z h a cl ty ∧ cl.slots.size = n ∧ n < 2 ^ 31 ∧ (∀ i, i < n → cl.slots[i]? = some (f i)) ∧ ∀ i, i < n → fits ty (f i) = true
def upV (f : Nat → Value) (j : Nat) (v : Value) (i : Nat) : Value := if i = j then v else f i
def upI (f : Nat → Int32) (j : Nat) (v : Int32) (i : Nat) : Int32 := if i = j then v else f i
def upJ (f : Nat → Int64) (j : Nat) (v : Int64) (i : Nat) : Int64 := if i = j then v else f i
def upD (f : Nat → UInt64) (j : Nat) (v : UInt64) (i : Nat) : UInt64 := if i = j then v else f i
section ArF
variable {Z : State} {h h' : Heap} {a b : Addr} {ty : FieldType} {n : Nat} {f : Nat → Value} {sl : Nat} {v : Value} {ws : List Addr}
theorem ArF.lt (F : ArF Z h a ty n f) : a < h.size := by obtain ⟨c, A, -⟩ := F; exact A.lt
theorem ArF.ext (F : ArF Z h a ty n f) (E : Ext h h') : ArF Z h' a ty n f := by obtain ⟨c, A, r⟩ := F; exact ⟨c, A.ext E, r⟩
theorem ArF.other (F : ArF Z h b ty n f) (W : Wr h h' a sl v) (q : b ≠ a) : ArF Z h' b ty n f := by obtain ⟨c, A, r⟩ := F; exact ⟨c, A.other W q, r⟩
theorem ArF.keep (F : ArF Z h a ty n f) (K : Keep h h' ws) (q : a ∉ ws) : ArF Z h' a ty n f := by obtain ⟨c, A, r⟩ := F; exact ⟨c, ⟨K.2.1 a c A.1 q, A.2⟩, r⟩
theorem ArF.len (F : ArF Z h a ty n f) : n < 2 ^ 31 := by obtain ⟨c, A, r1, r2, -⟩ := F; exact r2
theorem ArF.fit (F : ArF Z h a ty n f) {i : Nat} (hi : i < n) : fits ty (f i) = true := by obtain ⟨c, A, r1, r2, r3, r4⟩ := F; exact r4 i hi
theorem ArF.congr {g : Nat → Value} (F : ArF Z h a ty n f) (q : ∀ i, i < n → g i = f i) : ArF Z h a ty n g := by
  obtain ⟨c, A, r1, r2, r3, r4⟩ := F
  exact ⟨c, A, r1, r2, fun i hi => by rw [q i hi]; exact r3 i hi, fun i hi => by rw [q i hi]; exact r4 i hi⟩
theorem ArF.new {k : ClassId} {z : Int32} (A : Arr Z h a (newA k ty z) ty) (hn : ¬ z < 0) (hz : z.toNatClampNeg = n) : ArF Z h a ty n (fun _ => defaultValue ty) := by
  subst hz
  refine ⟨_, A, sz_new _ _ _, (back32 hn).2, fun i hi => ?_, fun i hi => by cases ty <;> rfl⟩
  simp [newA, hi]
theorem ArF.set {x : Nat} (F : ArF Z h a ty n f) (hv : fits ty v = true) (W : Wr h h' a x v) : ArF Z h' a ty n (upV f x v) := by
  obtain ⟨c, A, r1, r2, r3, r4⟩ := F
  refine ⟨_, A.same W, by simp [Cell.setSlot, r1], r2, fun i hi => ?_, fun i hi => ?_⟩
  · by_cases e : i = x
    · subst e; simp [upV, Cell.setSlot, r1, hi]
    · simp only [upV, e, if_false, Cell.setSlot]
      rw [Array.getElem?_setIfInBounds_ne (Ne.symm e)]; exact r3 i hi
  · by_cases e : i = x
    · simp [upV, e, hv]
    · simp only [upV, e, if_false]; exact r4 i hi
theorem ArF.arv (F : ArF Z h a ty n f) (d : Value) : ∃ k, Arv Z h a k ty n.toInt32 ((List.range n).map f) d := by
  obtain ⟨c, A, r1, r2, r3, r4⟩ := F
  have hz : (n.toInt32).toInt = n := len_toInt r2
  have hz0 : (0 : Int32).toInt = 0 := rfl
  have hg : ∀ i, i < n → ((List.range n).map f).getD i d = f i := fun i hi => by simp [List.getD, hi]
  refine ⟨c.cls, c, A, rfl, ?_, by rw [Int32.lt_iff_toInt_lt]; omega, fun i hi => ?_, fun i hi => ?_⟩
  · rw [r1, Int32.toNatClampNeg]; omega
  · rw [r1] at hi; rw [hg i hi]; exact r3 i hi
  · rw [r1] at hi; rw [hg i hi]; exact r4 i hi
theorem arF_of_arv {k : ClassId} {z : Int32} {vs : List Value} {d : Value} (F : Arv Z h a k ty z vs d) : ArF Z h a ty z.toNatClampNeg (fun i => vs.getD i d) := by
  obtain ⟨c, A, -, r2, r3, r4, r5⟩ := F
  exact ⟨c, A, r2, (back32 r3).2, fun i hi => r4 i (by rw [r2]; exact hi), fun i hi => r5 i (by rw [r2]; exact hi)⟩
/-- n places of f from sp on, laid over f' from dp on -/
def cpF (f f' : Nat → Value) (sp dp nn : Nat) (i : Nat) : Value := if dp ≤ i ∧ i < dp + nn then f (sp + (i - dp)) else f' i
def cpT {α : Type} (f f' : Nat → α) (sp dp nn : Nat) (i : Nat) : α := if dp ≤ i ∧ i < dp + nn then f (sp + (i - dp)) else f' i
theorem ArF.cpI {g g' : Nat → Int32} {x y z : Nat} (F : ArF Z h a ty n (cpF (fun i => .int (g i)) (fun i => .int (g' i)) x y z)) : ArF Z h a ty n (fun i => .int (cpT g g' x y z i)) := F.congr fun i _ => by simp only [cpF, cpT]; split <;> rfl
theorem ArF.cpJ {g g' : Nat → Int64} {x y z : Nat} (F : ArF Z h a ty n (cpF (fun i => .long (g i)) (fun i => .long (g' i)) x y z)) : ArF Z h a ty n (fun i => .long (cpT g g' x y z i)) := F.congr fun i _ => by simp only [cpF, cpT]; split <;> rfl
theorem ArF.cpD {g g' : Nat → UInt64} {x y z : Nat} (F : ArF Z h a ty n (cpF (fun i => .double (g i)) (fun i => .double (g' i)) x y z)) : ArF Z h a ty n (fun i => .double (cpT g g' x y z i)) := F.congr fun i _ => by simp only [cpF, cpT]; split <;> rfl
theorem nat_idx {j : Int32} {k : Nat} (hj : j.toInt = (k : Int)) : j.toNatClampNeg = k := by simp only [Int32.toNatClampNeg]; omega
theorem in_idx {j : Int32} {k : Nat} {c : Cell} (hj : j.toInt = (k : Int)) (hk : k < n) (e : c.slots.size = n) : ¬ (j < 0 ∨ c.slots.size ≤ j.toNatClampNeg) := by
  rw [nat_idx hj, e, Int32.lt_iff_toInt_lt]
  have : (0 : Int32).toInt = 0 := rfl
  omega
end ArF
section ArrSteps
variable {p : Program} {l : Launch} {e : Env} {R : Room} {s : State} {m : MethodId} {args : Array Value} {below : List Frame} {meth : Method} {c : Code} {T : State} {locs : List Loc} {cells slots : Nat} {Q : Option Value → Heap → List Loc → Prop} {C S : Nat} {Z : State} {a0 : Array Value} {h : Heap} {a : Addr} {n : Nat} {j : Int32} {pc : Nat} {Ls : Array Slot} {rest : List Value}
theorem Go.alen (X : Stand p l e R s m args below meth c T locs cells slots) (hx : p.tables.exec = Jvm.exec) (hZ : Z.Warmed39 s.vm) (eT : T.heap = h) {ty : FieldType} {f : Nat → Value} (F : ArF Z h a ty n f) (hd : decode c.code pc = .ok (.arraylength, 1))
    (kk : Go p.tables e below s Q C S (T.setTop (mkF m (pc + 1) Ls (.int n.toInt32 :: rest)))) : Go p.tables e below s Q C S (T.setTop (mkF m pc Ls (.ref a :: rest))) := by
  obtain ⟨cl, A, r1, r2, -⟩ := F
  subst r1
  exact Go.of (fun t q => X.arraylength hx (by rw [eT]; exact A.1) (State.isArrayOf_alike hZ.alike A.2.1) (g := mkF m pc Ls (.ref a :: rest)) rfl rfl hd t q) kk
theorem Go.iaload (X : Stand p l e R s m args below meth c T locs cells slots) (hx : p.tables.exec = Jvm.exec) (hZ : Z.Warmed39 s.vm) (eT : T.heap = h) {f : Nat → Int32} (F : ArF Z h a .int n (fun i => .int (f i))) {k : Nat} (hj : j.toInt = (k : Int)) (hk : k < n) (hd : decode c.code pc = .ok (.iaload, 1))
    (kk : Go p.tables e below s Q C S (T.setTop (mkF m (pc + 1) Ls (.int (f k) :: rest)))) : Go p.tables e below s Q C S (T.setTop (mkF m pc Ls (.int j :: .ref a :: rest))) := by
  obtain ⟨cl, A, r1, r2, r3, -⟩ := F
  exact Go.of (fun t q => X.iaload hx (j := j) (v := .int (f k)) (by rw [eT]; exact A.1) (State.isArrayOf_alike hZ.alike A.2.1) A.2.2 (in_idx hj hk r1) (by rw [nat_idx hj, r3 _ hk]) (g := mkF m pc Ls (.int j :: .ref a :: rest)) rfl rfl hd t q) kk
theorem Go.laload (X : Stand p l e R s m args below meth c T locs cells slots) (hx : p.tables.exec = Jvm.exec) (hZ : Z.Warmed39 s.vm) (eT : T.heap = h) {f : Nat → Int64} (F : ArF Z h a .long n (fun i => .long (f i))) {k : Nat} (hj : j.toInt = (k : Int)) (hk : k < n) (hd : decode c.code pc = .ok (.laload, 1))
    (kk : Go p.tables e below s Q C S (T.setTop (mkF m (pc + 1) Ls (.long (f k) :: rest)))) : Go p.tables e below s Q C S (T.setTop (mkF m pc Ls (.int j :: .ref a :: rest))) := by
  obtain ⟨cl, A, r1, r2, r3, -⟩ := F
  exact Go.of (fun t q => X.laload hx (j := j) (v := .long (f k)) (by rw [eT]; exact A.1) (State.isArrayOf_alike hZ.alike A.2.1) A.2.2 (in_idx hj hk r1) (by rw [nat_idx hj, r3 _ hk]) (g := mkF m pc Ls (.int j :: .ref a :: rest)) rfl rfl hd t q) kk
theorem Go.baload (X : Stand p l e R s m args below meth c T locs cells slots) (hx : p.tables.exec = Jvm.exec) (hZ : Z.Warmed39 s.vm) (eT : T.heap = h) {f : Nat → Int32} (F : ArF Z h a .byte n (fun i => .int (f i))) {k : Nat} (hj : j.toInt = (k : Int)) (hk : k < n) (hd : decode c.code pc = .ok (.baload, 1))
    (kk : Go p.tables e below s Q C S (T.setTop (mkF m (pc + 1) Ls (.int (f k) :: rest)))) : Go p.tables e below s Q C S (T.setTop (mkF m pc Ls (.int j :: .ref a :: rest))) := by
  obtain ⟨cl, A, r1, r2, r3, -⟩ := F
  exact Go.of (fun t q => X.baloadBytes hx (j := j) (v := .int (f k)) (by rw [eT]; exact A.1) (State.isArrayOf_alike hZ.alike A.2.1) A.2.2 (in_idx hj hk r1) (by rw [nat_idx hj, r3 _ hk]) (g := mkF m pc Ls (.int j :: .ref a :: rest)) rfl rfl hd t q) kk
theorem Go.daload (X : Stand p l e R s m args below meth c T locs cells slots) (hx : p.tables.exec = Jvm.exec) (hZ : Z.Warmed39 s.vm) (eT : T.heap = h) {f : Nat → UInt64} (F : ArF Z h a .double n (fun i => .double (f i))) {k : Nat} (hj : j.toInt = (k : Int)) (hk : k < n) (hd : decode c.code pc = .ok (.daload, 1))
    (kk : Go p.tables e below s Q C S (T.setTop (mkF m (pc + 1) Ls (.double (f k) :: rest)))) : Go p.tables e below s Q C S (T.setTop (mkF m pc Ls (.int j :: .ref a :: rest))) := by
  obtain ⟨cl, A, r1, r2, r3, -⟩ := F
  exact Go.of (fun t q => X.daload hx (j := j) (v := .double (f k)) (by rw [eT]; exact A.1) (State.isArrayOf_alike hZ.alike A.2.1) A.2.2 (in_idx hj hk r1) (by rw [nat_idx hj, r3 _ hk]) (g := mkF m pc Ls (.int j :: .ref a :: rest)) rfl rfl hd t q) kk
theorem Go.aaload (X : Stand p l e R s m args below meth c T locs cells slots) (hx : p.tables.exec = Jvm.exec) (hZ : Z.Warmed39 s.vm) (eT : T.heap = h) {ty : FieldType} {f : Nat → Value} (F : ArF Z h a ty n f) (hty : ty.isReference = true) {k : Nat} (hj : j.toInt = (k : Int)) (hk : k < n) {v : Value} (hv : f k = v) (hd : decode c.code pc = .ok (.aaload, 1))
    (kk : Go p.tables e below s Q C S (T.setTop (mkF m (pc + 1) Ls (v :: rest)))) : Go p.tables e below s Q C S (T.setTop (mkF m pc Ls (.int j :: .ref a :: rest))) := by
  obtain ⟨cl, A, r1, r2, r3, -⟩ := F
  exact Go.of (fun t q => X.aaload hx (j := j) (v := v) (by rw [eT]; exact A.1) (State.isArrayOf_alike hZ.alike A.2.1) hty A.2.2 (in_idx hj hk r1) (by rw [nat_idx hj, r3 _ hk, hv]) (g := mkF m pc Ls (.int j :: .ref a :: rest)) rfl rfl hd t q) kk
theorem Go.iastore (X : Stand p l e R s m args below meth c T locs cells slots) (hx : p.tables.exec = Jvm.exec) (hZ : Z.Warmed39 s.vm) (eT : T.heap = h) {f : Nat → Int32} (F : ArF Z h a .int n (fun i => .int (f i))) {x : Int32} {k : Nat} (hj : j.toInt = (k : Int)) (hk : k < n) (hd : decode c.code pc = .ok (.iastore, 1))
    (kk : ∀ T' h', Stand p l e R s m args below meth c T' (locs ++ [⟨a, k⟩]) cells slots → T'.heap = h' → Wr h h' a k (.int x) → ArF Z h' a .int n (fun i => .int (upI f k x i)) → Go p.tables e below s Q C S (T'.setTop (mkF m (pc + 1) Ls rest))) : Go p.tables e below s Q C S (T.setTop (mkF m pc Ls (.int x :: .int j :: .ref a :: rest))) := by
  obtain ⟨cl, A, r1, r2, r3, r4⟩ := F
  obtain ⟨T', h', X', e', W, st⟩ := stI X hx hZ eT A (j := j) (in_idx hj hk r1) (g := mkF m pc Ls (.int x :: .int j :: .ref a :: rest)) rfl rfl hd
  rw [nat_idx hj] at X' W
  exact Go.of st (kk T' h' X' e' W ((ArF.set ⟨cl, A, r1, r2, r3, r4⟩ rfl W).congr fun i _ => by simp only [upV, upI]; split <;> rfl))
theorem Go.lastore (X : Stand p l e R s m args below meth c T locs cells slots) (hx : p.tables.exec = Jvm.exec) (hZ : Z.Warmed39 s.vm) (eT : T.heap = h) {f : Nat → Int64} (F : ArF Z h a .long n (fun i => .long (f i))) {x : Int64} {k : Nat} (hj : j.toInt = (k : Int)) (hk : k < n) (hd : decode c.code pc = .ok (.lastore, 1))
    (kk : ∀ T' h', Stand p l e R s m args below meth c T' (locs ++ [⟨a, k⟩]) cells slots → T'.heap = h' → Wr h h' a k (.long x) → ArF Z h' a .long n (fun i => .long (upJ f k x i)) → Go p.tables e below s Q C S (T'.setTop (mkF m (pc + 1) Ls rest))) : Go p.tables e below s Q C S (T.setTop (mkF m pc Ls (.long x :: .int j :: .ref a :: rest))) := by
  obtain ⟨cl, A, r1, r2, r3, r4⟩ := F
  obtain ⟨T', h', X', e', W, st⟩ := stJ X hx hZ eT A (j := j) (in_idx hj hk r1) (g := mkF m pc Ls (.long x :: .int j :: .ref a :: rest)) rfl rfl hd
  rw [nat_idx hj] at X' W
  exact Go.of st (kk T' h' X' e' W ((ArF.set ⟨cl, A, r1, r2, r3, r4⟩ rfl W).congr fun i _ => by simp only [upV, upJ]; split <;> rfl))
theorem Go.bastore (X : Stand p l e R s m args below meth c T locs cells slots) (hx : p.tables.exec = Jvm.exec) (hZ : Z.Warmed39 s.vm) (eT : T.heap = h) {f : Nat → Int32} (F : ArF Z h a .byte n (fun i => .int (f i))) {x : Int32} {k : Nat} (hj : j.toInt = (k : Int)) (hk : k < n) (hd : decode c.code pc = .ok (.bastore, 1))
    (kk : ∀ T' h', Stand p l e R s m args below meth c T' (locs ++ [⟨a, k⟩]) cells slots → T'.heap = h' → Wr h h' a k (.int (nar .byte x)) → ArF Z h' a .byte n (fun i => .int (upI f k (nar .byte x) i)) → Go p.tables e below s Q C S (T'.setTop (mkF m (pc + 1) Ls rest))) : Go p.tables e below s Q C S (T.setTop (mkF m pc Ls (.int x :: .int j :: .ref a :: rest))) := by
  obtain ⟨cl, A, r1, r2, r3, r4⟩ := F
  obtain ⟨T', h', X', e', W, st⟩ := stB X hx hZ eT A (j := j) (in_idx hj hk r1) (g := mkF m pc Ls (.int x :: .int j :: .ref a :: rest)) rfl rfl hd
  rw [nat_idx hj] at X' W
  exact Go.of st (kk T' h' X' e' W ((ArF.set ⟨cl, A, r1, r2, r3, r4⟩ (fits_nar_byte _) W).congr fun i _ => by simp only [upV, upI]; split <;> rfl))
theorem Go.dastore (X : Stand p l e R s m args below meth c T locs cells slots) (hx : p.tables.exec = Jvm.exec) (hZ : Z.Warmed39 s.vm) (eT : T.heap = h) {f : Nat → UInt64} (F : ArF Z h a .double n (fun i => .double (f i))) {x : UInt64} {k : Nat} (hj : j.toInt = (k : Int)) (hk : k < n) (hd : decode c.code pc = .ok (.dastore, 1))
    (kk : ∀ T' h', Stand p l e R s m args below meth c T' (locs ++ [⟨a, k⟩]) cells slots → T'.heap = h' → Wr h h' a k (.double x) → ArF Z h' a .double n (fun i => .double (upD f k x i)) → Go p.tables e below s Q C S (T'.setTop (mkF m (pc + 1) Ls rest))) : Go p.tables e below s Q C S (T.setTop (mkF m pc Ls (.double x :: .int j :: .ref a :: rest))) := by
  obtain ⟨cl, A, r1, r2, r3, r4⟩ := F
  obtain ⟨T', h', X', e', W, st⟩ := stD X hx hZ eT A (j := j) (in_idx hj hk r1) (g := mkF m pc Ls (.double x :: .int j :: .ref a :: rest)) rfl rfl hd
  rw [nat_idx hj] at X' W
  exact Go.of st (kk T' h' X' e' W ((ArF.set ⟨cl, A, r1, r2, r3, r4⟩ rfl W).congr fun i _ => by simp only [upV, upD]; split <;> rfl))
theorem Go.newarr (X : Stand p l e R s m args below meth c T locs cells slots) (hx : p.tables.exec = Jvm.exec) (hZ : Z.Warmed39 s.vm) {aty : ArrayType} {ty : FieldType} (hty : newarray.typeOf aty = ty) (w : (Cond.arrayClass ty).before a0 Z = true) (eT : T.heap = h) {z : Int32} (hn : ¬ z < 0) (hz : z.toNatClampNeg = n) {cap : Nat} (hcap : n ≤ cap) (hb : cap * 8 ≤ 536870912) (hc : cells + 1 ≤ R.cells) (hl : slots + cap ≤ R.slots)
    (hd : decode c.code pc = .ok (.newarray aty, 2))
    (kk : ∀ T' h' b, Stand p l e R s m args below meth c T' locs (cells + 1) (slots + cap) → T'.heap = h' → Ext h h' → b = h.size → ArF Z h' b ty n (fun _ => defaultValue ty) → Go p.tables e below s Q C S (T'.setTop (mkF m (pc + 2) Ls (.ref b :: rest)))) : Go p.tables e below s Q C S (T.setTop (mkF m pc Ls (.int z :: rest))) := by
  subst hty
  obtain ⟨T', h', cA, X', e', E, A, st⟩ := newP X hx hZ w eT (g := mkF m pc Ls (.int z :: rest)) rfl hd rfl hn (cap := cap) (by omega) hb hc hl
  exact Go.of st (kk T' h' h.size X' e' E rfl (ArF.new A hn hz))
theorem Go.arraycopy (X : Stand p l e R s m args below meth c T locs cells slots) (hx : p.tables.exec = Jvm.exec) (hZ : Z.Warmed39 s.vm) {own : String} {index : Nat} (hown : s.vm.findClass own = some m.cls)
    (w1 : (Cond.methodLink own index Jvm.Stand.acN).before a0 Z = true) (w2 : (Cond.native Jvm.Stand.acN).before a0 Z = true) (w3 : (Cond.static Jvm.Stand.acN).before a0 Z = true) (w4 : (Cond.initialized "java/lang/System").before a0 Z = true) (eT : T.heap = h)
    {ty : FieldType} {b : Addr} {n' : Nat} {f f' : Nat → Value} (A : ArF Z h a ty n f) (B : ArF Z h b ty n' f') (hty : refKind ty = false) {sp dp nn : Int32} {ks kd kn : Nat} (h1 : sp.toInt = (ks : Int)) (h2 : dp.toInt = (kd : Int)) (h3 : nn.toInt = (kn : Int)) (h4 : ks + kn ≤ n) (h5 : kd + kn ≤ n') {n0 : Nat} (N : Fr n0 locs) (ge : n0 ≤ b)
    (hsz : Ls.size = c.maxLocals) (hd : decode c.code pc = .ok (.invokestatic index, 3)) (hf : 1 ≤ R.frames) {W : Nat} (hW : (rest.map fun v => v.category).sum = W) (hlo : W + (nativeFrameWords "java/lang/System" "arraycopy" 5 + 11) ≤ R.locals)
    (kk : ∀ T' h' L, Stand p l e R s m args below meth c T' L cells slots → T'.heap = h' → Fr n0 L → Keep h h' [b] → ArF Z h' b ty n' (cpF f f' ks kd kn) → Go p.tables e below s Q C S (T'.setTop (mkF m (pc + 3) Ls rest))) : Go p.tables e below s Q C S (T.setTop (mkF m pc Ls (.int nn :: .int dp :: .ref b :: .int sp :: .ref a :: rest))) := by
  obtain ⟨k1, A'⟩ := A.arv (.int 0)
  obtain ⟨k2, B'⟩ := B.arv (.int 0)
  have e1 := nat_idx h1
  have e2 := nat_idx h2
  have e3 := nat_idx h3
  have z0 : (0 : Int32).toInt = 0 := rfl
  have zn : (n.toInt32).toNatClampNeg = n := by have := len_toInt A.len; rw [Int32.toNatClampNeg]; omega
  have zn' : (n'.toInt32).toNatClampNeg = n' := by have := len_toInt B.len; rw [Int32.toNatClampNeg]; omega
  obtain ⟨T', h', L, X', e', N', K, V, st⟩ := cpA X hx hZ hown w1 w2 w3 w4 eT A' B' (Or.inl ⟨rfl, hty⟩) (sp := sp) (dp := dp) (nn := nn) (by rw [Int32.lt_iff_toInt_lt]; omega) (by rw [Int32.lt_iff_toInt_lt]; omega) (by rw [Int32.lt_iff_toInt_lt]; omega) (by rw [e1, e3, zn]; exact h4) (by rw [e2, e3, zn']; exact h5) rfl (by rw [e2, e3]; simpa using h5) N ge (g := mkF m pc Ls (.int nn :: .int dp :: .ref b :: .int sp :: .ref a :: rest)) rfl hsz rfl hd hf (W := W) (by show 2 * 0 + _ ≤ _; rw [hW]; omega) hlo
  refine Go.of st (kk T' h' L X' e' N' K ?_)
  have V2 := arF_of_arv V
  rw [zn'] at V2
  refine V2.congr fun i hi => ?_
  rw [e1, e2, e3]
  simp only [cpF, List.getD]
  by_cases c1 : i < kd
  · rw [if_neg (by omega), List.append_assoc, List.getElem?_append_left (by simp; omega)]
    simp [c1, hi]
  · by_cases c2 : i < kd + kn
    · have c3 : ks + (i - kd) < n := by omega
      have c4 : i - kd < kn := by omega
      rw [if_pos ⟨by omega, c2⟩, List.append_assoc, List.getElem?_append_right (by simp; omega)]
      have c5 : (List.take kd (List.map f' (List.range n'))).length = kd := by simp; omega
      rw [c5, List.getElem?_append_left (by simpa using c4)]
      simp [c4, c3]
    · have c5 : (List.take kd (List.map f' (List.range n')) ++ List.map (fun i => ((List.map f (List.range n))[ks + i]?).getD (Value.int 0)) (List.range kn)).length = kd + kn := by simp; omega
      rw [if_neg (by omega), List.getElem?_append_right (by rw [c5]; omega), c5]
      have c6 : kd + kn + (i - (kd + kn)) = i := by omega
      simp [c6, hi]
end ArrSteps
section Steps1
variable {p : Program} {l : Launch} {e : Env} {R : Room} {s : State} {m : MethodId} {args : Array Value} {below : List Frame} {meth : Method} {c : Code} {T : State} {locs : List Loc} {cells slots : Nat} {Q : Option Value → Heap → List Loc → Prop} {C S : Nat} {bs : ByteArray} {pc pc' : Nat} {Ls : Array Slot} {st : List Value} {Z : State} {a0 : Array Value} {h : Heap} {own : String}
theorem g_iloadN (X : Stand p l e R s m args below meth c T locs cells slots) (hx : p.tables.exec = Jvm.exec) (hby : c.code = bs) {k : Fin 4} {v : Int32} (hd : decode bs pc = .ok (.iload_n k, 1)) (hp : pc + 1 = pc') (hl : Ls[k.val]? = some (.val (.int v))) (kk : Go p.tables e below s Q C S (T.setTop (mkF m pc' Ls (.int v :: st)))) : Go p.tables e below s Q C S (T.setTop (mkF m pc Ls (st))) := by
  subst hp
  exact Go.of (fun _ q => XS.iloadN X.here hx rfl (hb hby hd) hl q) kk
theorem g_iload (X : Stand p l e R s m args below meth c T locs cells slots) (hx : p.tables.exec = Jvm.exec) (hby : c.code = bs) {k : Nat} {v : Int32} (hd : decode bs pc = .ok (.iload k, 2)) (hp : pc + 2 = pc') (hl : Ls[k]? = some (.val (.int v))) (kk : Go p.tables e below s Q C S (T.setTop (mkF m pc' Ls (.int v :: st)))) : Go p.tables e below s Q C S (T.setTop (mkF m pc Ls (st))) := by
  subst hp
  exact Go.of (fun _ q => XS.iload X.here hx rfl (hb hby hd) hl q) kk
theorem g_istoreN (X : Stand p l e R s m args below meth c T locs cells slots) (hx : p.tables.exec = Jvm.exec) (hby : c.code = bs) {k : Fin 4} {v : Int32} {L' : Array Slot} (hd : decode bs pc = .ok (.istore_n k, 1)) (hp : pc + 1 = pc') (hl : storeLocals Ls k.val (.int v) = some L') (kk : Go p.tables e below s Q C S (T.setTop (mkF m pc' L' (st)))) : Go p.tables e below s Q C S (T.setTop (mkF m pc Ls (.int v :: st))) := by
  subst hp
  exact Go.of (fun _ q => XS.istoreN X.here hx rfl (hb hby hd) rfl hl q) kk
theorem g_istore (X : Stand p l e R s m args below meth c T locs cells slots) (hx : p.tables.exec = Jvm.exec) (hby : c.code = bs) {k : Nat} {v : Int32} {L' : Array Slot} (hd : decode bs pc = .ok (.istore k, 2)) (hp : pc + 2 = pc') (hl : storeLocals Ls k (.int v) = some L') (kk : Go p.tables e below s Q C S (T.setTop (mkF m pc' L' (st)))) : Go p.tables e below s Q C S (T.setTop (mkF m pc Ls (.int v :: st))) := by
  subst hp
  exact Go.of (fun _ q => XS.istore X.here hx rfl (hb hby hd) rfl hl q) kk
theorem g_iadd (X : Stand p l e R s m args below meth c T locs cells slots) (hx : p.tables.exec = Jvm.exec) (hby : c.code = bs) {x y z : Int32} (hd : decode bs pc = .ok (.iadd, 1)) (hp : pc + 1 = pc') (hz : x + y = z) (kk : Go p.tables e below s Q C S (T.setTop (mkF m pc' Ls (.int z :: st)))) : Go p.tables e below s Q C S (T.setTop (mkF m pc Ls (.int y :: .int x :: st))) := by
  subst hp; subst hz
  exact Go.of (fun _ q => XS.iadd X.here hx rfl (hb hby hd) rfl q) kk
theorem g_isub (X : Stand p l e R s m args below meth c T locs cells slots) (hx : p.tables.exec = Jvm.exec) (hby : c.code = bs) {x y z : Int32} (hd : decode bs pc = .ok (.isub, 1)) (hp : pc + 1 = pc') (hz : x - y = z) (kk : Go p.tables e below s Q C S (T.setTop (mkF m pc' Ls (.int z :: st)))) : Go p.tables e below s Q C S (T.setTop (mkF m pc Ls (.int y :: .int x :: st))) := by
  subst hp; subst hz
  exact Go.of (fun _ q => XS.isub X.here hx rfl (hb hby hd) rfl q) kk
theorem g_imul (X : Stand p l e R s m args below meth c T locs cells slots) (hx : p.tables.exec = Jvm.exec) (hby : c.code = bs) {x y z : Int32} (hd : decode bs pc = .ok (.imul, 1)) (hp : pc + 1 = pc') (hz : x * y = z) (kk : Go p.tables e below s Q C S (T.setTop (mkF m pc' Ls (.int z :: st)))) : Go p.tables e below s Q C S (T.setTop (mkF m pc Ls (.int y :: .int x :: st))) := by
  subst hp; subst hz
  exact Go.of (fun _ q => XS.imul X.here hx rfl (hb hby hd) rfl q) kk
theorem g_iand (X : Stand p l e R s m args below meth c T locs cells slots) (hx : p.tables.exec = Jvm.exec) (hby : c.code = bs) {x y z : Int32} (hd : decode bs pc = .ok (.iand, 1)) (hp : pc + 1 = pc') (hz : x &&& y = z) (kk : Go p.tables e below s Q C S (T.setTop (mkF m pc' Ls (.int z :: st)))) : Go p.tables e below s Q C S (T.setTop (mkF m pc Ls (.int y :: .int x :: st))) := by
  subst hp; subst hz
  exact Go.of (fun _ q => XS.iand X.here hx rfl (hb hby hd) rfl q) kk
theorem g_ior (X : Stand p l e R s m args below meth c T locs cells slots) (hx : p.tables.exec = Jvm.exec) (hby : c.code = bs) {x y z : Int32} (hd : decode bs pc = .ok (.ior, 1)) (hp : pc + 1 = pc') (hz : x ||| y = z) (kk : Go p.tables e below s Q C S (T.setTop (mkF m pc' Ls (.int z :: st)))) : Go p.tables e below s Q C S (T.setTop (mkF m pc Ls (.int y :: .int x :: st))) := by
  subst hp; subst hz
  exact Go.of (fun _ q => XS.ior X.here hx rfl (hb hby hd) rfl q) kk
theorem g_ixor (X : Stand p l e R s m args below meth c T locs cells slots) (hx : p.tables.exec = Jvm.exec) (hby : c.code = bs) {x y z : Int32} (hd : decode bs pc = .ok (.ixor, 1)) (hp : pc + 1 = pc') (hz : x ^^^ y = z) (kk : Go p.tables e below s Q C S (T.setTop (mkF m pc' Ls (.int z :: st)))) : Go p.tables e below s Q C S (T.setTop (mkF m pc Ls (.int y :: .int x :: st))) := by
  subst hp; subst hz
  exact Go.of (fun _ q => XS.ixor X.here hx rfl (hb hby hd) rfl q) kk
theorem g_ineg (X : Stand p l e R s m args below meth c T locs cells slots) (hx : p.tables.exec = Jvm.exec) (hby : c.code = bs) {x z : Int32} (hd : decode bs pc = .ok (.ineg, 1)) (hp : pc + 1 = pc') (hz : -x = z) (kk : Go p.tables e below s Q C S (T.setTop (mkF m pc' Ls (.int z :: st)))) : Go p.tables e below s Q C S (T.setTop (mkF m pc Ls (.int x :: st))) := by
  subst hp; subst hz
  exact Go.of (fun _ q => XS.ineg X.here hx rfl (hb hby hd) rfl q) kk
theorem g_idiv (X : Stand p l e R s m args below meth c T locs cells slots) (hx : p.tables.exec = Jvm.exec) (hby : c.code = bs) {x y z : Int32} (hd : decode bs pc = .ok (.idiv, 1)) (hp : pc + 1 = pc') (hy : y ≠ 0) (hz : x / y = z) (kk : Go p.tables e below s Q C S (T.setTop (mkF m pc' Ls (.int z :: st)))) : Go p.tables e below s Q C S (T.setTop (mkF m pc Ls (.int y :: .int x :: st))) := by
  subst hp; subst hz
  exact Go.of (fun _ q => XS.idiv X.here hx rfl (hb hby hd) rfl hy q) kk
theorem g_lloadN (X : Stand p l e R s m args below meth c T locs cells slots) (hx : p.tables.exec = Jvm.exec) (hby : c.code = bs) {k : Fin 4} {v : Int64} (hd : decode bs pc = .ok (.lload_n k, 1)) (hp : pc + 1 = pc') (hl : Ls[k.val]? = some (.val (.long v))) (kk : Go p.tables e below s Q C S (T.setTop (mkF m pc' Ls (.long v :: st)))) : Go p.tables e below s Q C S (T.setTop (mkF m pc Ls (st))) := by
  subst hp
  exact Go.of (fun _ q => XS.lloadN X.here hx rfl (hb hby hd) hl q) kk
theorem g_lload (X : Stand p l e R s m args below meth c T locs cells slots) (hx : p.tables.exec = Jvm.exec) (hby : c.code = bs) {k : Nat} {v : Int64} (hd : decode bs pc = .ok (.lload k, 2)) (hp : pc + 2 = pc') (hl : Ls[k]? = some (.val (.long v))) (kk : Go p.tables e below s Q C S (T.setTop (mkF m pc' Ls (.long v :: st)))) : Go p.tables e below s Q C S (T.setTop (mkF m pc Ls (st))) := by
  subst hp
  exact Go.of (fun _ q => XS.lload X.here hx rfl (hb hby hd) hl q) kk
theorem g_lstoreN (X : Stand p l e R s m args below meth c T locs cells slots) (hx : p.tables.exec = Jvm.exec) (hby : c.code = bs) {k : Fin 4} {v : Int64} {L' : Array Slot} (hd : decode bs pc = .ok (.lstore_n k, 1)) (hp : pc + 1 = pc') (hl : storeLocals Ls k.val (.long v) = some L') (kk : Go p.tables e below s Q C S (T.setTop (mkF m pc' L' (st)))) : Go p.tables e below s Q C S (T.setTop (mkF m pc Ls (.long v :: st))) := by
  subst hp
  exact Go.of (fun _ q => XS.lstoreN X.here hx rfl (hb hby hd) rfl hl q) kk
theorem g_lstore (X : Stand p l e R s m args below meth c T locs cells slots) (hx : p.tables.exec = Jvm.exec) (hby : c.code = bs) {k : Nat} {v : Int64} {L' : Array Slot} (hd : decode bs pc = .ok (.lstore k, 2)) (hp : pc + 2 = pc') (hl : storeLocals Ls k (.long v) = some L') (kk : Go p.tables e below s Q C S (T.setTop (mkF m pc' L' (st)))) : Go p.tables e below s Q C S (T.setTop (mkF m pc Ls (.long v :: st))) := by
  subst hp
  exact Go.of (fun _ q => XS.lstore X.here hx rfl (hb hby hd) rfl hl q) kk
theorem g_ladd (X : Stand p l e R s m args below meth c T locs cells slots) (hx : p.tables.exec = Jvm.exec) (hby : c.code = bs) {x y z : Int64} (hd : decode bs pc = .ok (.ladd, 1)) (hp : pc + 1 = pc') (hz : x + y = z) (kk : Go p.tables e below s Q C S (T.setTop (mkF m pc' Ls (.long z :: st)))) : Go p.tables e below s Q C S (T.setTop (mkF m pc Ls (.long y :: .long x :: st))) := by
  subst hp; subst hz
  exact Go.of (fun _ q => XS.ladd X.here hx rfl (hb hby hd) rfl q) kk
theorem g_lsub (X : Stand p l e R s m args below meth c T locs cells slots) (hx : p.tables.exec = Jvm.exec) (hby : c.code = bs) {x y z : Int64} (hd : decode bs pc = .ok (.lsub, 1)) (hp : pc + 1 = pc') (hz : x - y = z) (kk : Go p.tables e below s Q C S (T.setTop (mkF m pc' Ls (.long z :: st)))) : Go p.tables e below s Q C S (T.setTop (mkF m pc Ls (.long y :: .long x :: st))) := by
  subst hp; subst hz
  exact Go.of (fun _ q => XS.lsub X.here hx rfl (hb hby hd) rfl q) kk
theorem g_lmul (X : Stand p l e R s m args below meth c T locs cells slots) (hx : p.tables.exec = Jvm.exec) (hby : c.code = bs) {x y z : Int64} (hd : decode bs pc = .ok (.lmul, 1)) (hp : pc + 1 = pc') (hz : x * y = z) (kk : Go p.tables e below s Q C S (T.setTop (mkF m pc' Ls (.long z :: st)))) : Go p.tables e below s Q C S (T.setTop (mkF m pc Ls (.long y :: .long x :: st))) := by
  subst hp; subst hz
  exact Go.of (fun _ q => XS.lmul X.here hx rfl (hb hby hd) rfl q) kk
theorem g_land (X : Stand p l e R s m args below meth c T locs cells slots) (hx : p.tables.exec = Jvm.exec) (hby : c.code = bs) {x y z : Int64} (hd : decode bs pc = .ok (.land, 1)) (hp : pc + 1 = pc') (hz : x &&& y = z) (kk : Go p.tables e below s Q C S (T.setTop (mkF m pc' Ls (.long z :: st)))) : Go p.tables e below s Q C S (T.setTop (mkF m pc Ls (.long y :: .long x :: st))) := by
  subst hp; subst hz
  exact Go.of (fun _ q => XS.land X.here hx rfl (hb hby hd) rfl q) kk
theorem g_lor (X : Stand p l e R s m args below meth c T locs cells slots) (hx : p.tables.exec = Jvm.exec) (hby : c.code = bs) {x y z : Int64} (hd : decode bs pc = .ok (.lor, 1)) (hp : pc + 1 = pc') (hz : x ||| y = z) (kk : Go p.tables e below s Q C S (T.setTop (mkF m pc' Ls (.long z :: st)))) : Go p.tables e below s Q C S (T.setTop (mkF m pc Ls (.long y :: .long x :: st))) := by
  subst hp; subst hz
  exact Go.of (fun _ q => XS.lor X.here hx rfl (hb hby hd) rfl q) kk
theorem g_lxor (X : Stand p l e R s m args below meth c T locs cells slots) (hx : p.tables.exec = Jvm.exec) (hby : c.code = bs) {x y z : Int64} (hd : decode bs pc = .ok (.lxor, 1)) (hp : pc + 1 = pc') (hz : x ^^^ y = z) (kk : Go p.tables e below s Q C S (T.setTop (mkF m pc' Ls (.long z :: st)))) : Go p.tables e below s Q C S (T.setTop (mkF m pc Ls (.long y :: .long x :: st))) := by
  subst hp; subst hz
  exact Go.of (fun _ q => XS.lxor X.here hx rfl (hb hby hd) rfl q) kk
theorem g_lneg (X : Stand p l e R s m args below meth c T locs cells slots) (hx : p.tables.exec = Jvm.exec) (hby : c.code = bs) {x z : Int64} (hd : decode bs pc = .ok (.lneg, 1)) (hp : pc + 1 = pc') (hz : -x = z) (kk : Go p.tables e below s Q C S (T.setTop (mkF m pc' Ls (.long z :: st)))) : Go p.tables e below s Q C S (T.setTop (mkF m pc Ls (.long x :: st))) := by
  subst hp; subst hz
  exact Go.of (fun _ q => XS.lneg X.here hx rfl (hb hby hd) rfl q) kk
theorem g_ldiv (X : Stand p l e R s m args below meth c T locs cells slots) (hx : p.tables.exec = Jvm.exec) (hby : c.code = bs) {x y z : Int64} (hd : decode bs pc = .ok (.ldiv, 1)) (hp : pc + 1 = pc') (hy : y ≠ 0) (hz : x / y = z) (kk : Go p.tables e below s Q C S (T.setTop (mkF m pc' Ls (.long z :: st)))) : Go p.tables e below s Q C S (T.setTop (mkF m pc Ls (.long y :: .long x :: st))) := by
  subst hp; subst hz
  exact Go.of (fun _ q => XS.ldiv X.here hx rfl (hb hby hd) rfl hy q) kk
theorem g_dloadN (X : Stand p l e R s m args below meth c T locs cells slots) (hx : p.tables.exec = Jvm.exec) (hby : c.code = bs) {k : Fin 4} {v : UInt64} (hd : decode bs pc = .ok (.dload_n k, 1)) (hp : pc + 1 = pc') (hl : Ls[k.val]? = some (.val (.double v))) (kk : Go p.tables e below s Q C S (T.setTop (mkF m pc' Ls (.double v :: st)))) : Go p.tables e below s Q C S (T.setTop (mkF m pc Ls (st))) := by
  subst hp
  exact Go.of (fun _ q => XS.dloadN X.here hx rfl (hb hby hd) hl q) kk
theorem g_dload (X : Stand p l e R s m args below meth c T locs cells slots) (hx : p.tables.exec = Jvm.exec) (hby : c.code = bs) {k : Nat} {v : UInt64} (hd : decode bs pc = .ok (.dload k, 2)) (hp : pc + 2 = pc') (hl : Ls[k]? = some (.val (.double v))) (kk : Go p.tables e below s Q C S (T.setTop (mkF m pc' Ls (.double v :: st)))) : Go p.tables e below s Q C S (T.setTop (mkF m pc Ls (st))) := by
  subst hp
  exact Go.of (fun _ q => XS.dload X.here hx rfl (hb hby hd) hl q) kk
theorem g_dstoreN (X : Stand p l e R s m args below meth c T locs cells slots) (hx : p.tables.exec = Jvm.exec) (hby : c.code = bs) {k : Fin 4} {v : UInt64} {L' : Array Slot} (hd : decode bs pc = .ok (.dstore_n k, 1)) (hp : pc + 1 = pc') (hl : storeLocals Ls k.val (.double v) = some L') (kk : Go p.tables e below s Q C S (T.setTop (mkF m pc' L' (st)))) : Go p.tables e below s Q C S (T.setTop (mkF m pc Ls (.double v :: st))) := by
  subst hp
  exact Go.of (fun _ q => XS.dstoreN X.here hx rfl (hb hby hd) rfl hl q) kk
theorem g_dstore (X : Stand p l e R s m args below meth c T locs cells slots) (hx : p.tables.exec = Jvm.exec) (hby : c.code = bs) {k : Nat} {v : UInt64} {L' : Array Slot} (hd : decode bs pc = .ok (.dstore k, 2)) (hp : pc + 2 = pc') (hl : storeLocals Ls k (.double v) = some L') (kk : Go p.tables e below s Q C S (T.setTop (mkF m pc' L' (st)))) : Go p.tables e below s Q C S (T.setTop (mkF m pc Ls (.double v :: st))) := by
  subst hp
  exact Go.of (fun _ q => XS.dstore X.here hx rfl (hb hby hd) rfl hl q) kk
theorem g_irem (X : Stand p l e R s m args below meth c T locs cells slots) (hx : p.tables.exec = Jvm.exec) (hby : c.code = bs) {x y z : Int32} (hd : decode bs pc = .ok (.irem, 1)) (hp : pc + 1 = pc') (hy : y ≠ 0) (hz : x % y = z) (kk : Go p.tables e below s Q C S (T.setTop (mkF m pc' Ls (.int z :: st)))) : Go p.tables e below s Q C S (T.setTop (mkF m pc Ls (.int y :: .int x :: st))) := by
  subst hp; subst hz
  exact Go.of (fun _ q => XS.irem X.here hx rfl (hb hby hd) rfl hy (by rw [irem_mod]; exact q)) kk
theorem g_ishl (X : Stand p l e R s m args below meth c T locs cells slots) (hx : p.tables.exec = Jvm.exec) (hby : c.code = bs) {x z : Int32} {y : Int32} (hd : decode bs pc = .ok (.ishl, 1)) (hp : pc + 1 = pc') (hz : x <<< (y &&& 31) = z) (kk : Go p.tables e below s Q C S (T.setTop (mkF m pc' Ls (.int z :: st)))) : Go p.tables e below s Q C S (T.setTop (mkF m pc Ls (.int y :: .int x :: st))) := by
  subst hp; subst hz
  exact Go.of (fun _ q => XS.ishl X.here hx rfl (hb hby hd) rfl q) kk
theorem g_ishr (X : Stand p l e R s m args below meth c T locs cells slots) (hx : p.tables.exec = Jvm.exec) (hby : c.code = bs) {x z : Int32} {y : Int32} (hd : decode bs pc = .ok (.ishr, 1)) (hp : pc + 1 = pc') (hz : x >>> (y &&& 31) = z) (kk : Go p.tables e below s Q C S (T.setTop (mkF m pc' Ls (.int z :: st)))) : Go p.tables e below s Q C S (T.setTop (mkF m pc Ls (.int y :: .int x :: st))) := by
  subst hp; subst hz
  exact Go.of (fun _ q => XS.ishr X.here hx rfl (hb hby hd) rfl q) kk
theorem g_iushr (X : Stand p l e R s m args below meth c T locs cells slots) (hx : p.tables.exec = Jvm.exec) (hby : c.code = bs) {x z : Int32} {y : Int32} (hd : decode bs pc = .ok (.iushr, 1)) (hp : pc + 1 = pc') (hz : (x.toUInt32 >>> (y &&& 31).toUInt32).toInt32 = z) (kk : Go p.tables e below s Q C S (T.setTop (mkF m pc' Ls (.int z :: st)))) : Go p.tables e below s Q C S (T.setTop (mkF m pc Ls (.int y :: .int x :: st))) := by
  subst hp; subst hz
  exact Go.of (fun _ q => XS.iushr X.here hx rfl (hb hby hd) rfl q) kk
theorem g_lshl (X : Stand p l e R s m args below meth c T locs cells slots) (hx : p.tables.exec = Jvm.exec) (hby : c.code = bs) {x z : Int64} {y : Int32} (hd : decode bs pc = .ok (.lshl, 1)) (hp : pc + 1 = pc') (hz : x <<< (y &&& 0x3f).toInt64 = z) (kk : Go p.tables e below s Q C S (T.setTop (mkF m pc' Ls (.long z :: st)))) : Go p.tables e below s Q C S (T.setTop (mkF m pc Ls (.int y :: .long x :: st))) := by
  subst hp; subst hz
  exact Go.of (fun _ q => XS.lshl X.here hx rfl (hb hby hd) rfl q) kk
theorem g_lshr (X : Stand p l e R s m args below meth c T locs cells slots) (hx : p.tables.exec = Jvm.exec) (hby : c.code = bs) {x z : Int64} {y : Int32} (hd : decode bs pc = .ok (.lshr, 1)) (hp : pc + 1 = pc') (hz : x >>> (y &&& 0x3f).toInt64 = z) (kk : Go p.tables e below s Q C S (T.setTop (mkF m pc' Ls (.long z :: st)))) : Go p.tables e below s Q C S (T.setTop (mkF m pc Ls (.int y :: .long x :: st))) := by
  subst hp; subst hz
  exact Go.of (fun _ q => XS.lshr X.here hx rfl (hb hby hd) rfl q) kk
theorem g_lushr (X : Stand p l e R s m args below meth c T locs cells slots) (hx : p.tables.exec = Jvm.exec) (hby : c.code = bs) {x z : Int64} {y : Int32} (hd : decode bs pc = .ok (.lushr, 1)) (hp : pc + 1 = pc') (hz : (x.toUInt64 >>> (y &&& 0x3f).toInt64.toUInt64).toInt64 = z) (kk : Go p.tables e below s Q C S (T.setTop (mkF m pc' Ls (.long z :: st)))) : Go p.tables e below s Q C S (T.setTop (mkF m pc Ls (.int y :: .long x :: st))) := by
  subst hp; subst hz
  exact Go.of (fun _ q => XS.lushr X.here hx rfl (hb hby hd) rfl q) kk
theorem g_i2l (X : Stand p l e R s m args below meth c T locs cells slots) (hx : p.tables.exec = Jvm.exec) (hby : c.code = bs) {x : Int32} {z : Int64} (hd : decode bs pc = .ok (.i2l, 1)) (hp : pc + 1 = pc') (hz : x.toInt64 = z) (kk : Go p.tables e below s Q C S (T.setTop (mkF m pc' Ls (.long z :: st)))) : Go p.tables e below s Q C S (T.setTop (mkF m pc Ls (.int x :: st))) := by
  subst hp; subst hz
  exact Go.of (fun _ q => XS.i2l X.here hx rfl (hb hby hd) rfl q) kk
theorem g_l2i (X : Stand p l e R s m args below meth c T locs cells slots) (hx : p.tables.exec = Jvm.exec) (hby : c.code = bs) {x : Int64} {z : Int32} (hd : decode bs pc = .ok (.l2i, 1)) (hp : pc + 1 = pc') (hz : x.toInt32 = z) (kk : Go p.tables e below s Q C S (T.setTop (mkF m pc' Ls (.int z :: st)))) : Go p.tables e below s Q C S (T.setTop (mkF m pc Ls (.long x :: st))) := by
  subst hp; subst hz
  exact Go.of (fun _ q => XS.l2i X.here hx rfl (hb hby hd) rfl q) kk
theorem g_i2b (X : Stand p l e R s m args below meth c T locs cells slots) (hx : p.tables.exec = Jvm.exec) (hby : c.code = bs) {x : Int32} {z : Int32} (hd : decode bs pc = .ok (.i2b, 1)) (hp : pc + 1 = pc') (hz : x.toInt8.toInt32 = z) (kk : Go p.tables e below s Q C S (T.setTop (mkF m pc' Ls (.int z :: st)))) : Go p.tables e below s Q C S (T.setTop (mkF m pc Ls (.int x :: st))) := by
  subst hp; subst hz
  exact Go.of (fun _ q => XS.i2b X.here hx rfl (hb hby hd) rfl q) kk
theorem g_i2c (X : Stand p l e R s m args below meth c T locs cells slots) (hx : p.tables.exec = Jvm.exec) (hby : c.code = bs) {x : Int32} {z : Int32} (hd : decode bs pc = .ok (.i2c, 1)) (hp : pc + 1 = pc') (hz : x.toUInt32.toUInt16.toUInt32.toInt32 = z) (kk : Go p.tables e below s Q C S (T.setTop (mkF m pc' Ls (.int z :: st)))) : Go p.tables e below s Q C S (T.setTop (mkF m pc Ls (.int x :: st))) := by
  subst hp; subst hz
  exact Go.of (fun _ q => XS.i2c X.here hx rfl (hb hby hd) rfl q) kk
theorem g_i2s (X : Stand p l e R s m args below meth c T locs cells slots) (hx : p.tables.exec = Jvm.exec) (hby : c.code = bs) {x : Int32} {z : Int32} (hd : decode bs pc = .ok (.i2s, 1)) (hp : pc + 1 = pc') (hz : x.toInt16.toInt32 = z) (kk : Go p.tables e below s Q C S (T.setTop (mkF m pc' Ls (.int z :: st)))) : Go p.tables e below s Q C S (T.setTop (mkF m pc Ls (.int x :: st))) := by
  subst hp; subst hz
  exact Go.of (fun _ q => XS.i2s X.here hx rfl (hb hby hd) rfl q) kk
theorem g_lcmp (X : Stand p l e R s m args below meth c T locs cells slots) (hx : p.tables.exec = Jvm.exec) (hby : c.code = bs) {x y : Int64} (hd : decode bs pc = .ok (.lcmp, 1)) (hp : pc + 1 = pc')  (kk : Go p.tables e below s Q C S (T.setTop (mkF m pc' Ls (.int (lcmpW x y) :: st)))) : Go p.tables e below s Q C S (T.setTop (mkF m pc Ls (.long y :: .long x :: st))) := by
  subst hp
  exact Go.of (fun _ q => XS.lcmp X.here hx rfl (hb hby hd) rfl q) kk
theorem g_aloadN (X : Stand p l e R s m args below meth c T locs cells slots) (hx : p.tables.exec = Jvm.exec) (hby : c.code = bs) {k : Fin 4} {v : Value} (hd : decode bs pc = .ok (.aload_n k, 1)) (hp : pc + 1 = pc') (hl : Ls[k.val]? = some (.val v)) (hr : v.isRef = true) (kk : Go p.tables e below s Q C S (T.setTop (mkF m pc' Ls (v :: st)))) : Go p.tables e below s Q C S (T.setTop (mkF m pc Ls (st))) := by
  subst hp
  exact Go.of (fun _ q => XS.aloadN X.here hx rfl (hb hby hd) hl hr q) kk
theorem g_aload (X : Stand p l e R s m args below meth c T locs cells slots) (hx : p.tables.exec = Jvm.exec) (hby : c.code = bs) {k : Nat} {v : Value} (hd : decode bs pc = .ok (.aload k, 2)) (hp : pc + 2 = pc') (hl : Ls[k]? = some (.val v)) (hr : v.isRef = true) (kk : Go p.tables e below s Q C S (T.setTop (mkF m pc' Ls (v :: st)))) : Go p.tables e below s Q C S (T.setTop (mkF m pc Ls (st))) := by
  subst hp
  exact Go.of (fun _ q => XS.aload X.here hx rfl (hb hby hd) hl hr q) kk
theorem g_astoreN (X : Stand p l e R s m args below meth c T locs cells slots) (hx : p.tables.exec = Jvm.exec) (hby : c.code = bs) {k : Fin 4} {v : Value} {L' : Array Slot} (hd : decode bs pc = .ok (.astore_n k, 1)) (hp : pc + 1 = pc') (hr : v.isRef = true) (hl : storeLocals Ls k.val v = some L') (kk : Go p.tables e below s Q C S (T.setTop (mkF m pc' L' (st)))) : Go p.tables e below s Q C S (T.setTop (mkF m pc Ls (v :: st))) := by
  subst hp
  exact Go.of (fun _ q => XS.astoreN X.here hx rfl (hb hby hd) rfl hr hl q) kk
theorem g_astore (X : Stand p l e R s m args below meth c T locs cells slots) (hx : p.tables.exec = Jvm.exec) (hby : c.code = bs) {k : Nat} {v : Value} {L' : Array Slot} (hd : decode bs pc = .ok (.astore k, 2)) (hp : pc + 2 = pc') (hr : v.isRef = true) (hl : storeLocals Ls k v = some L') (kk : Go p.tables e below s Q C S (T.setTop (mkF m pc' L' (st)))) : Go p.tables e below s Q C S (T.setTop (mkF m pc Ls (v :: st))) := by
  subst hp
  exact Go.of (fun _ q => XS.astore X.here hx rfl (hb hby hd) rfl hr hl q) kk
theorem g_iconst (X : Stand p l e R s m args below meth c T locs cells slots) (hx : p.tables.exec = Jvm.exec) (hby : c.code = bs) {i : Int} {z : Int32} (hd : decode bs pc = .ok (.iconst i, 1)) (hp : pc + 1 = pc') (hz : Int32.ofInt i = z) (kk : Go p.tables e below s Q C S (T.setTop (mkF m pc' Ls (.int z :: st)))) : Go p.tables e below s Q C S (T.setTop (mkF m pc Ls (st))) := by
  subst hp; subst hz
  exact Go.of (fun _ q => XS.iconst X.here hx rfl (hb hby hd) q) kk
theorem g_bipush (X : Stand p l e R s m args below meth c T locs cells slots) (hx : p.tables.exec = Jvm.exec) (hby : c.code = bs) {i : Int} {z : Int32} (hd : decode bs pc = .ok (.bipush i, 2)) (hp : pc + 2 = pc') (hz : (Int8.ofInt i).toInt32 = z) (kk : Go p.tables e below s Q C S (T.setTop (mkF m pc' Ls (.int z :: st)))) : Go p.tables e below s Q C S (T.setTop (mkF m pc Ls (st))) := by
  subst hp; subst hz
  exact Go.of (fun _ q => XS.bipush X.here hx rfl (hb hby hd) q) kk
theorem g_sipush (X : Stand p l e R s m args below meth c T locs cells slots) (hx : p.tables.exec = Jvm.exec) (hby : c.code = bs) {i : Int} {z : Int32} (hd : decode bs pc = .ok (.sipush i, 3)) (hp : pc + 3 = pc') (hz : (Int16.ofInt i).toInt32 = z) (kk : Go p.tables e below s Q C S (T.setTop (mkF m pc' Ls (.int z :: st)))) : Go p.tables e below s Q C S (T.setTop (mkF m pc Ls (st))) := by
  subst hp; subst hz
  exact Go.of (fun _ q => XS.sipush X.here hx rfl (hb hby hd) q) kk
theorem g_aconst_null (X : Stand p l e R s m args below meth c T locs cells slots) (hx : p.tables.exec = Jvm.exec) (hby : c.code = bs)  (hd : decode bs pc = .ok (.aconst_null, 1)) (hp : pc + 1 = pc')  (kk : Go p.tables e below s Q C S (T.setTop (mkF m pc' Ls (.null :: st)))) : Go p.tables e below s Q C S (T.setTop (mkF m pc Ls (st))) := by
  subst hp
  exact Go.of (fun _ q => XS.aconstNull X.here hx rfl (hb hby hd) q) kk
theorem g_iinc (X : Stand p l e R s m args below meth c T locs cells slots) (hx : p.tables.exec = Jvm.exec) (hby : c.code = bs) {k : Nat} {i : Int} {x : Int32} {L' : Array Slot} (hd : decode bs pc = .ok (.iinc k i, 3)) (hp : pc + 3 = pc') (hl : Ls[k]? = some (.val (.int x))) (hl' : storeLocals Ls k (.int (x + Int32.ofInt i)) = some L') (kk : Go p.tables e below s Q C S (T.setTop (mkF m pc' L' (st)))) : Go p.tables e below s Q C S (T.setTop (mkF m pc Ls (st))) := by
  subst hp
  exact Go.of (fun _ q => XS.iinc X.here hx rfl (hb hby hd) hl hl' q) kk
theorem g_dup (X : Stand p l e R s m args below meth c T locs cells slots) (hx : p.tables.exec = Jvm.exec) (hby : c.code = bs) {v : Value} (hd : decode bs pc = .ok (.dup, 1)) (hp : pc + 1 = pc') (hc : v.category = 1) (kk : Go p.tables e below s Q C S (T.setTop (mkF m pc' Ls (v :: v :: st)))) : Go p.tables e below s Q C S (T.setTop (mkF m pc Ls (v :: st))) := by
  subst hp
  exact Go.of (fun _ q => XS.dup X.here hx rfl (hb hby hd) rfl hc q) kk
theorem g_pop (X : Stand p l e R s m args below meth c T locs cells slots) (hx : p.tables.exec = Jvm.exec) (hby : c.code = bs) {v : Value} (hd : decode bs pc = .ok (.pop, 1)) (hp : pc + 1 = pc') (hc : v.category = 1) (kk : Go p.tables e below s Q C S (T.setTop (mkF m pc' Ls (st)))) : Go p.tables e below s Q C S (T.setTop (mkF m pc Ls (v :: st))) := by
  subst hp
  exact Go.of (fun _ q => XS.pop X.here hx rfl (hb hby hd) rfl hc q) kk
theorem g_dup_x1 (X : Stand p l e R s m args below meth c T locs cells slots) (hx : p.tables.exec = Jvm.exec) (hby : c.code = bs) {v w : Value} (hd : decode bs pc = .ok (.dup_x1, 1)) (hp : pc + 1 = pc') (hc : v.category = 1) (hc' : w.category = 1) (kk : Go p.tables e below s Q C S (T.setTop (mkF m pc' Ls (v :: w :: v :: st)))) : Go p.tables e below s Q C S (T.setTop (mkF m pc Ls (v :: w :: st))) := by
  subst hp
  exact Go.of (fun _ q => XS.dupX1 X.here hx rfl (hb hby hd) rfl hc hc' q) kk
theorem g_dup2 (X : Stand p l e R s m args below meth c T locs cells slots) (hx : p.tables.exec = Jvm.exec) (hby : c.code = bs) {v w : Value} (hd : decode bs pc = .ok (.dup2, 1)) (hp : pc + 1 = pc') (hc : v.category = 1) (hc' : w.category = 1) (kk : Go p.tables e below s Q C S (T.setTop (mkF m pc' Ls (v :: w :: v :: w :: st)))) : Go p.tables e below s Q C S (T.setTop (mkF m pc Ls (v :: w :: st))) := by
  subst hp
  exact Go.of (fun _ q => Jvm.Free.XT.dup2 X.here hx rfl (hb hby hd) rfl hc hc' q) kk
theorem g_goto (X : Stand p l e R s m args below meth c T locs cells slots) (hx : p.tables.exec = Jvm.exec) (hby : c.code = bs) {o : Int} (hd : decode bs pc = .ok (.goto o, 3)) (h0 : 0 ≤ (pc : Int) + o) (hp : ((pc : Int) + o).toNat = pc') (kk : Go p.tables e below s Q C S (T.setTop (mkF m pc' Ls st))) : Go p.tables e below s Q C S (T.setTop (mkF m pc Ls st)) :=
  Go.of (fun _ q => XS.goto X.here hx rfl (pc0 := pc) (pc' := pc') rfl (hb hby hd) h0 hp q) kk
theorem g_ifYes (X : Stand p l e R s m args below meth c T locs cells slots) (hx : p.tables.exec = Jvm.exec) (hby : c.code = bs) {cd : ClassFile.Cond} {x : Int32} {o : Int} (hd : decode bs pc = .ok (.ifCond cd o, 3)) (hc : if_icmp.holds cd x 0 = true) (h0 : 0 ≤ (pc : Int) + o) (hp : ((pc : Int) + o).toNat = pc') (kk : Go p.tables e below s Q C S (T.setTop (mkF m pc' Ls st))) : Go p.tables e below s Q C S (T.setTop (mkF m pc Ls (.int x :: st))) :=
  Go.of (fun _ q => XS.ifYes X.here hx rfl (pc0 := pc) (pc' := pc') rfl (hb hby hd) rfl ((if0 _ _).trans hc) h0 hp q) kk
theorem g_ifNo (X : Stand p l e R s m args below meth c T locs cells slots) (hx : p.tables.exec = Jvm.exec) (hby : c.code = bs) {cd : ClassFile.Cond} {x : Int32} {o : Int} (hd : decode bs pc = .ok (.ifCond cd o, 3)) (hc : if_icmp.holds cd x 0 = false) (hp : pc + 3 = pc') (kk : Go p.tables e below s Q C S (T.setTop (mkF m pc' Ls st))) : Go p.tables e below s Q C S (T.setTop (mkF m pc Ls (.int x :: st))) := by
  subst hp
  exact Go.of (fun _ q => XS.ifNo X.here hx rfl (hb hby hd) rfl ((if0 _ _).trans hc) q) kk
theorem g_icmpYes (X : Stand p l e R s m args below meth c T locs cells slots) (hx : p.tables.exec = Jvm.exec) (hby : c.code = bs) {cd : ClassFile.Cond} {x y : Int32} {o : Int} (hd : decode bs pc = .ok (.if_icmp cd o, 3)) (hc : if_icmp.holds cd x y = true) (h0 : 0 ≤ (pc : Int) + o) (hp : ((pc : Int) + o).toNat = pc') (kk : Go p.tables e below s Q C S (T.setTop (mkF m pc' Ls st))) : Go p.tables e below s Q C S (T.setTop (mkF m pc Ls (.int y :: .int x :: st))) :=
  Go.of (fun _ q => XS.icmpYes X.here hx rfl (pc0 := pc) (pc' := pc') rfl (hb hby hd) rfl hc h0 hp q) kk
theorem g_icmpNo (X : Stand p l e R s m args below meth c T locs cells slots) (hx : p.tables.exec = Jvm.exec) (hby : c.code = bs) {cd : ClassFile.Cond} {x y : Int32} {o : Int} (hd : decode bs pc = .ok (.if_icmp cd o, 3)) (hc : if_icmp.holds cd x y = false) (hp : pc + 3 = pc') (kk : Go p.tables e below s Q C S (T.setTop (mkF m pc' Ls st))) : Go p.tables e below s Q C S (T.setTop (mkF m pc Ls (.int y :: .int x :: st))) := by
  subst hp
  exact Go.of (fun _ q => XS.icmpNo X.here hx rfl (hb hby hd) rfl hc q) kk
theorem g_ldcI (X : Stand p l e R s m args below meth c T locs cells slots) (hx : p.tables.exec = Jvm.exec) (hby : c.code = bs) (hZ : Z.Warmed39 s.vm) (hown : s.vm.findClass own = some m.cls) {i : Nat} {z : Int32} (w : (Cond.constant own i z).before a0 Z = true) (hd : decode bs pc = .ok (.ldc i, 2)) (hp : pc + 2 = pc') (kk : Go p.tables e below s Q C S (T.setTop (mkF m pc' Ls (.int z :: st)))) : Go p.tables e below s Q C S (T.setTop (mkF m pc Ls st)) := by
  subst hp
  exact Go.of (fun _ q => X.ldcInt hx hown (mvT hZ w) (g := mkF m pc Ls st) rfl (hb hby hd) _ q) kk
theorem g_ldcwI (X : Stand p l e R s m args below meth c T locs cells slots) (hx : p.tables.exec = Jvm.exec) (hby : c.code = bs) (hZ : Z.Warmed39 s.vm) (hown : s.vm.findClass own = some m.cls) {i : Nat} {z : Int32} (w : (Cond.constant own i z).before a0 Z = true) (hd : decode bs pc = .ok (.ldc_w i, 3)) (hp : pc + 3 = pc') (kk : Go p.tables e below s Q C S (T.setTop (mkF m pc' Ls (.int z :: st)))) : Go p.tables e below s Q C S (T.setTop (mkF m pc Ls st)) := by
  subst hp
  exact Go.of (fun _ q => X.ldcwInt hx hown (mvT hZ w) (g := mkF m pc Ls st) rfl (hb hby hd) _ q) kk
theorem g_ldcL (X : Stand p l e R s m args below meth c T locs cells slots) (hx : p.tables.exec = Jvm.exec) (hby : c.code = bs) (hZ : Z.Warmed39 s.vm) (hown : s.vm.findClass own = some m.cls) {i : Nat} {z : Int64} (w : (Cond.constantLong own i z).before a0 Z = true) (hd : decode bs pc = .ok (.ldc2_w i, 3)) (hp : pc + 3 = pc') (kk : Go p.tables e below s Q C S (T.setTop (mkF m pc' Ls (.long z :: st)))) : Go p.tables e below s Q C S (T.setTop (mkF m pc Ls st)) := by
  subst hp
  exact Go.of (fun _ q => X.ldc2Long hx hown (mvT hZ w) (g := mkF m pc Ls st) rfl (hb hby hd) _ q) kk
theorem g_ldcD (X : Stand p l e R s m args below meth c T locs cells slots) (hx : p.tables.exec = Jvm.exec) (hby : c.code = bs) (hZ : Z.Warmed39 s.vm) (hown : s.vm.findClass own = some m.cls) {i : Nat} {z : UInt64} (w : (Cond.constantDouble own i z).before a0 Z = true) (hd : decode bs pc = .ok (.ldc2_w i, 3)) (hp : pc + 3 = pc') (kk : Go p.tables e below s Q C S (T.setTop (mkF m pc' Ls (.double z :: st)))) : Go p.tables e below s Q C S (T.setTop (mkF m pc Ls st)) := by
  subst hp
  exact Go.of (fun _ q => X.ldc2DoubleC hx hown (mvT hZ w) (g := mkF m pc Ls st) rfl (hb hby hd) _ q) kk
theorem g_getf (X : Stand p l e R s m args below meth c T locs cells slots) (hx : p.tables.exec = Jvm.exec) (hby : c.code = bs) (hZ : Z.Warmed39 s.vm) {R0 O n d host : String} {i : Nat} (hown : s.vm.findClass own = some m.cls) (w : (Cond.fieldLink own i R0 n d).before a0 Z = true ∨ (Cond.fieldLinkNest own i R0 n d host).before a0 Z = true) (via : Via Z R0 O n d) (eT : T.heap = h) {a : Addr} {v : Value} (F : Fld Z h a O n d v) (hd : decode bs pc = .ok (.getfield i, 3)) (hp : pc + 3 = pc') (kk : ∀ T', Stand p l e R s m args below meth c T' locs cells slots → T'.heap = h → Go p.tables e below s Q C S (T'.setTop (mkF m pc' Ls (v :: st)))) : Go p.tables e below s Q C S (T.setTop (mkF m pc Ls (.ref a :: st))) := by
  subst hp
  obtain ⟨T', X', e', q⟩ := getF X hx hZ hown w via eT F (g := mkF m pc Ls (.ref a :: st)) rfl rfl (hb hby hd)
  exact Go.of q (kk T' X' e')
theorem g_putf (X : Stand p l e R s m args below meth c T locs cells slots) (hx : p.tables.exec = Jvm.exec) (hby : c.code = bs) (hZ : Z.Warmed39 s.vm) {R0 O n d host : String} {i : Nat} (hown : s.vm.findClass own = some m.cls) (w : (Cond.fieldLink own i R0 n d).before a0 Z = true ∨ (Cond.fieldLinkNest own i R0 n d host).before a0 Z = true) (via : Via Z R0 O n d) (eT : T.heap = h) {a : Addr} {v old : Value} {K : String} {kk' : Nat} {ty : FieldType} (F : Fld Z h a O n d old) (E : Exa Z h a K) (L : (Cond.lays K O n d).before a0 Z = true ∨ ((Cond.laysFinal K O n d).before a0 Z = true ∧ own = O ∧ meth.name = "<init>")) (wi : (Cond.instantiable K kk').before a0 Z = true) (hty : parseFieldDescriptor d = some ty) (hn : narrow ty v = v) (hf : fits ty v = true) (hd : decode bs pc = .ok (.putfield i, 3)) (hp : pc + 3 = pc')
    (kk : ∀ T' h', Stand p l e R s m args below meth c T' (locs ++ [⟨a, Jvm.RoadKit.slotOf Z O n d⟩]) cells slots → T'.heap = h' → Wr h h' a (Jvm.RoadKit.slotOf Z O n d) v → Fld Z h' a O n d v → Go p.tables e below s Q C S (T'.setTop (mkF m pc' Ls st))) : Go p.tables e below s Q C S (T.setTop (mkF m pc Ls (v :: .ref a :: st))) := by
  subst hp
  obtain ⟨T', h', X', e', W, q⟩ := putF X hx hZ hown w via eT F E L wi hty hn hf (g := mkF m pc Ls (v :: .ref a :: st)) rfl rfl (hb hby hd)
  exact Go.of q (kk T' h' X' e' W (F.same W))
theorem g_new (X : Stand p l e R s m args below meth c T locs cells slots) (hx : p.tables.exec = Jvm.exec) (hby : c.code = bs) (hZ : Z.Warmed39 s.vm) {K : String} {i n : Nat} (hown : s.vm.findClass own = some m.cls) (w : (Cond.classLink own i K).before a0 Z = true) (wi : (Cond.instantiable K n).before a0 Z = true) (wz : (Cond.initialized K).before a0 Z = true) (eT : T.heap = h) (hd : decode bs pc = .ok (.new i, 3)) (hp : pc + 3 = pc') (hc : cells + 1 ≤ R.cells) (hl : slots + n ≤ R.slots)
    (kk : ∀ T' h' b, Stand p l e R s m args below meth c T' locs (cells + 1) (slots + n) → T'.heap = h' → Ext h h' → b = h.size → Exa Z h' b K → (∀ {O nm d : String} {ty : FieldType}, Laid Z a0 K O nm d → parseFieldDescriptor d = some ty → Fld Z h' b O nm d (defaultValue ty)) → Go p.tables e below s Q C S (T'.setTop (mkF m pc' Ls (.ref b :: st)))) : Go p.tables e below s Q C S (T.setTop (mkF m pc Ls st)) := by
  subst hp
  obtain ⟨T', h', X', e', E, A, D, -, q⟩ := newO X hx hZ hown w wi wz eT (g := mkF m pc Ls st) rfl (hb hby hd) hc hl
  exact Go.of q (kk T' h' h.size X' e' E rfl A D)
theorem g_init (X : Stand p l e R s m args below meth c T locs cells slots) (hx : p.tables.exec = Jvm.exec) (hby : c.code = bs) (hZ : Z.Warmed39 s.vm) {i : Nat} (hown : s.vm.findClass own = some m.cls) (w1 : (Cond.methodLink own i Lib.objectInit).before a0 Z = true) (w2 : (Cond.instanceMethod Lib.objectInit).before a0 Z = true) (w3 : (Cond.code Lib.objectInit ⟨#[0xb1]⟩ 1 none).before a0 Z = true) (eT : T.heap = h) {a : Addr} {W : Nat} (hsz : Ls.size = c.maxLocals) (hd : decode bs pc = .ok (.invokespecial i, 3)) (hp : pc + 3 = pc') (hf : 1 ≤ R.frames) (hW : (st.map fun v => v.category).sum = W) (hl : W + 12 ≤ R.locals) (kk : ∀ T', Stand p l e R s m args below meth c T' locs cells slots → T'.heap = h → Go p.tables e below s Q C S (T'.setTop (mkF m pc' Ls st))) : Go p.tables e below s Q C S (T.setTop (mkF m pc Ls (.ref a :: st))) := by
  subst hp
  obtain ⟨T', X', e', q⟩ := initO X hx hZ hown w1 w2 w3 eT (g := mkF m pc Ls (.ref a :: st)) rfl hsz rfl (hb hby hd) hf (W := W) (by show 2 * 0 + _ ≤ _; rw [hW]; omega) hl
  exact Go.of q (kk T' X' e')
end Steps1
end Jvm.OwnKit
namespace Jvm.Pilot.@@N@@
open Jvm Jvm.ClassFile Sem Op Lib Jvm.Free Jvm.Stand Jvm.LawKit Jvm.RoadKit Jvm.OwnKit Bundle Jvm.Pilot.@@N@@.Jvm.D
theorem wi {a0 : Array Value} {Z : State} (hw : ∀ d ∈ tables_1, d.before a0 Z = true) {d : Jvm.Cond} (i : Nat) (h : tables_1[i]? = some d) : d.before a0 Z = true := hw d (List.mem_of_getElem? h)
def own_b (i : Nat) : Int32 := [58, 59, 65, 91, 95, 96, 97, 123, 192, 215, 216, 247, 248, 768, 880, 894, 895, 8192, 8204, 8206, 8304, 8592, 11264, 12272, 12289, 55296, 63744, 64976, 65008, 65534, 65536, 983040].getD i 0
def own_ns (c : Int32) : Int32 := if (58 ≤ c.toInt ∧ c.toInt < 59) ∨ (65 ≤ c.toInt ∧ c.toInt < 91) ∨ (95 ≤ c.toInt ∧ c.toInt < 96) ∨ (97 ≤ c.toInt ∧ c.toInt < 123) ∨ (192 ≤ c.toInt ∧ c.toInt < 215) ∨ (216 ≤ c.toInt ∧ c.toInt < 247) ∨ (248 ≤ c.toInt ∧ c.toInt < 768) ∨ (880 ≤ c.toInt ∧ c.toInt < 894) ∨ (895 ≤ c.toInt ∧ c.toInt < 8192) ∨ (8204 ≤ c.toInt ∧ c.toInt < 8206) ∨ (8304 ≤ c.toInt ∧ c.toInt < 8592) ∨ (11264 ≤ c.toInt ∧ c.toInt < 12272) ∨ (12289 ≤ c.toInt ∧ c.toInt < 55296) ∨ (63744 ≤ c.toInt ∧ c.toInt < 64976) ∨ (65008 ≤ c.toInt ∧ c.toInt < 65534) ∨ (65536 ≤ c.toInt ∧ c.toInt < 983040) then 1 else 0
theorem own_same : ∀ i, i < 32 → own_b i = (upI (upI (upI (upI (upI (upI (upI (upI (upI (upI (upI (upI (upI (upI (upI (upI (upI (upI (upI (upI (upI (upI (upI (upI (upI (upI (upI (upI (upI (upI (upI (upI (fun _ => (0 : Int32)) 0 (58 : Int32)) 1 (59 : Int32)) 2 (65 : Int32)) 3 (91 : Int32)) 4 (95 : Int32)) 5 (96 : Int32)) 6 (97 : Int32)) 7 (123 : Int32)) 8 (192 : Int32)) 9 (215 : Int32)) 10 (216 : Int32)) 11 (247 : Int32)) 12 (248 : Int32)) 13 (768 : Int32)) 14 (880 : Int32)) 15 (894 : Int32)) 16 (895 : Int32)) 17 (8192 : Int32)) 18 (8204 : Int32)) 19 (8206 : Int32)) 20 (8304 : Int32)) 21 (8592 : Int32)) 22 (11264 : Int32)) 23 (12272 : Int32)) 24 (12289 : Int32)) 25 (55296 : Int32)) 26 (63744 : Int32)) 27 (64976 : Int32)) 28 (65008 : Int32)) 29 (65534 : Int32)) 30 (65536 : Int32)) 31 (983040 : Int32)) i := by decide +kernel
theorem own_idx (s : Int32) : ∃ k : Nat, k < 32 ∧ ((s &&& (2147483647 : Int32)) % (32 : Int32)).toInt = (k : Int) := by
  have h := c_mask s 2147483647 31 (by decide) (by decide)
  generalize (s &&& (2147483647 : Int32)) = u at *
  have h3 := (c_irem u 32 32 rfl).1 (by omega)
  exact ⟨(u % 32).toInt.toNat, by omega, by omega⟩
theorem d1_185 : decode prog_99_method_5_code 185 = .ok (.iload_n 0, 1) := by decide +kernel
theorem d1_186 : decode prog_99_method_5_code 186 = .ok (.ldc 47, 2) := by decide +kernel
theorem d1_188 : decode prog_99_method_5_code 188 = .ok (.if_icmp .lt 13, 3) := by decide +kernel
theorem d1_201 : decode prog_99_method_5_code 201 = .ok (.iconst 0, 1) := by decide +kernel
theorem d1_202 : decode prog_99_method_5_code 202 = .ok (.ireturn, 1) := by decide +kernel
theorem d1_191 : decode prog_99_method_5_code 191 = .ok (.iload_n 0, 1) := by decide +kernel
theorem d1_192 : decode prog_99_method_5_code 192 = .ok (.ldc 48, 2) := by decide +kernel
theorem d1_194 : decode prog_99_method_5_code 194 = .ok (.if_icmp .gt 7, 3) := by decide +kernel
theorem d1_197 : decode prog_99_method_5_code 197 = .ok (.iconst 1, 1) := by decide +kernel
theorem d1_198 : decode prog_99_method_5_code 198 = .ok (.goto 4, 3) := by decide +kernel
theorem d1_173 : decode prog_99_method_5_code 173 = .ok (.iload_n 0, 1) := by decide +kernel
theorem d1_174 : decode prog_99_method_5_code 174 = .ok (.ldc 45, 2) := by decide +kernel
theorem d1_176 : decode prog_99_method_5_code 176 = .ok (.if_icmp .lt 9, 3) := by decide +kernel
theorem d1_179 : decode prog_99_method_5_code 179 = .ok (.iload_n 0, 1) := by decide +kernel
theorem d1_180 : decode prog_99_method_5_code 180 = .ok (.ldc 46, 2) := by decide +kernel
theorem d1_182 : decode prog_99_method_5_code 182 = .ok (.if_icmp .le 15, 3) := by decide +kernel
theorem d1_161 : decode prog_99_method_5_code 161 = .ok (.iload_n 0, 1) := by decide +kernel
theorem d1_162 : decode prog_99_method_5_code 162 = .ok (.ldc 43, 2) := by decide +kernel
theorem d1_164 : decode prog_99_method_5_code 164 = .ok (.if_icmp .lt 9, 3) := by decide +kernel
theorem d1_167 : decode prog_99_method_5_code 167 = .ok (.iload_n 0, 1) := by decide +kernel
theorem d1_168 : decode prog_99_method_5_code 168 = .ok (.ldc 44, 2) := by decide +kernel
theorem d1_170 : decode prog_99_method_5_code 170 = .ok (.if_icmp .le 27, 3) := by decide +kernel
theorem d1_148 : decode prog_99_method_5_code 148 = .ok (.iload_n 0, 1) := by decide +kernel
theorem d1_149 : decode prog_99_method_5_code 149 = .ok (.sipush 12289, 3) := by decide +kernel
theorem d1_152 : decode prog_99_method_5_code 152 = .ok (.if_icmp .lt 9, 3) := by decide +kernel
theorem d1_155 : decode prog_99_method_5_code 155 = .ok (.iload_n 0, 1) := by decide +kernel
theorem d1_156 : decode prog_99_method_5_code 156 = .ok (.ldc 42, 2) := by decide +kernel
theorem d1_158 : decode prog_99_method_5_code 158 = .ok (.if_icmp .le 39, 3) := by decide +kernel
theorem d1_134 : decode prog_99_method_5_code 134 = .ok (.iload_n 0, 1) := by decide +kernel
theorem d1_135 : decode prog_99_method_5_code 135 = .ok (.sipush 11264, 3) := by decide +kernel
theorem d1_138 : decode prog_99_method_5_code 138 = .ok (.if_icmp .lt 10, 3) := by decide +kernel
theorem d1_141 : decode prog_99_method_5_code 141 = .ok (.iload_n 0, 1) := by decide +kernel
theorem d1_142 : decode prog_99_method_5_code 142 = .ok (.sipush 12271, 3) := by decide +kernel
theorem d1_145 : decode prog_99_method_5_code 145 = .ok (.if_icmp .le 52, 3) := by decide +kernel
theorem d1_120 : decode prog_99_method_5_code 120 = .ok (.iload_n 0, 1) := by decide +kernel
theorem d1_121 : decode prog_99_method_5_code 121 = .ok (.sipush 8304, 3) := by decide +kernel
theorem d1_124 : decode prog_99_method_5_code 124 = .ok (.if_icmp .lt 10, 3) := by decide +kernel
theorem d1_127 : decode prog_99_method_5_code 127 = .ok (.iload_n 0, 1) := by decide +kernel
theorem d1_128 : decode prog_99_method_5_code 128 = .ok (.sipush 8591, 3) := by decide +kernel
theorem d1_131 : decode prog_99_method_5_code 131 = .ok (.if_icmp .le 66, 3) := by decide +kernel
theorem d1_106 : decode prog_99_method_5_code 106 = .ok (.iload_n 0, 1) := by decide +kernel
theorem d1_107 : decode prog_99_method_5_code 107 = .ok (.sipush 8204, 3) := by decide +kernel
theorem d1_110 : decode prog_99_method_5_code 110 = .ok (.if_icmp .lt 10, 3) := by decide +kernel
theorem d1_113 : decode prog_99_method_5_code 113 = .ok (.iload_n 0, 1) := by decide +kernel
theorem d1_114 : decode prog_99_method_5_code 114 = .ok (.sipush 8205, 3) := by decide +kernel
theorem d1_117 : decode prog_99_method_5_code 117 = .ok (.if_icmp .le 80, 3) := by decide +kernel
theorem d1_92 : decode prog_99_method_5_code 92 = .ok (.iload_n 0, 1) := by decide +kernel
theorem d1_93 : decode prog_99_method_5_code 93 = .ok (.sipush 895, 3) := by decide +kernel
theorem d1_96 : decode prog_99_method_5_code 96 = .ok (.if_icmp .lt 10, 3) := by decide +kernel
theorem d1_99 : decode prog_99_method_5_code 99 = .ok (.iload_n 0, 1) := by decide +kernel
theorem d1_100 : decode prog_99_method_5_code 100 = .ok (.sipush 8191, 3) := by decide +kernel
theorem d1_103 : decode prog_99_method_5_code 103 = .ok (.if_icmp .le 94, 3) := by decide +kernel
theorem d1_78 : decode prog_99_method_5_code 78 = .ok (.iload_n 0, 1) := by decide +kernel
theorem d1_79 : decode prog_99_method_5_code 79 = .ok (.sipush 880, 3) := by decide +kernel
theorem d1_82 : decode prog_99_method_5_code 82 = .ok (.if_icmp .lt 10, 3) := by decide +kernel
theorem d1_85 : decode prog_99_method_5_code 85 = .ok (.iload_n 0, 1) := by decide +kernel
theorem d1_86 : decode prog_99_method_5_code 86 = .ok (.sipush 893, 3) := by decide +kernel
theorem d1_89 : decode prog_99_method_5_code 89 = .ok (.if_icmp .le 108, 3) := by decide +kernel
theorem d1_64 : decode prog_99_method_5_code 64 = .ok (.iload_n 0, 1) := by decide +kernel
theorem d1_65 : decode prog_99_method_5_code 65 = .ok (.sipush 248, 3) := by decide +kernel
theorem d1_68 : decode prog_99_method_5_code 68 = .ok (.if_icmp .lt 10, 3) := by decide +kernel
theorem d1_71 : decode prog_99_method_5_code 71 = .ok (.iload_n 0, 1) := by decide +kernel
theorem d1_72 : decode prog_99_method_5_code 72 = .ok (.sipush 767, 3) := by decide +kernel
theorem d1_75 : decode prog_99_method_5_code 75 = .ok (.if_icmp .le 122, 3) := by decide +kernel
theorem d1_50 : decode prog_99_method_5_code 50 = .ok (.iload_n 0, 1) := by decide +kernel
theorem d1_51 : decode prog_99_method_5_code 51 = .ok (.sipush 216, 3) := by decide +kernel
theorem d1_54 : decode prog_99_method_5_code 54 = .ok (.if_icmp .lt 10, 3) := by decide +kernel
theorem d1_57 : decode prog_99_method_5_code 57 = .ok (.iload_n 0, 1) := by decide +kernel
theorem d1_58 : decode prog_99_method_5_code 58 = .ok (.sipush 246, 3) := by decide +kernel
theorem d1_61 : decode prog_99_method_5_code 61 = .ok (.if_icmp .le 136, 3) := by decide +kernel
theorem d1_36 : decode prog_99_method_5_code 36 = .ok (.iload_n 0, 1) := by decide +kernel
theorem d1_37 : decode prog_99_method_5_code 37 = .ok (.sipush 192, 3) := by decide +kernel
theorem d1_40 : decode prog_99_method_5_code 40 = .ok (.if_icmp .lt 10, 3) := by decide +kernel
theorem d1_43 : decode prog_99_method_5_code 43 = .ok (.iload_n 0, 1) := by decide +kernel
theorem d1_44 : decode prog_99_method_5_code 44 = .ok (.sipush 214, 3) := by decide +kernel
theorem d1_47 : decode prog_99_method_5_code 47 = .ok (.if_icmp .le 150, 3) := by decide +kernel
theorem d1_24 : decode prog_99_method_5_code 24 = .ok (.iload_n 0, 1) := by decide +kernel
theorem d1_25 : decode prog_99_method_5_code 25 = .ok (.bipush 97, 2) := by decide +kernel
theorem d1_27 : decode prog_99_method_5_code 27 = .ok (.if_icmp .lt 9, 3) := by decide +kernel
theorem d1_30 : decode prog_99_method_5_code 30 = .ok (.iload_n 0, 1) := by decide +kernel
theorem d1_31 : decode prog_99_method_5_code 31 = .ok (.bipush 122, 2) := by decide +kernel
theorem d1_33 : decode prog_99_method_5_code 33 = .ok (.if_icmp .le 164, 3) := by decide +kernel
theorem d1_18 : decode prog_99_method_5_code 18 = .ok (.iload_n 0, 1) := by decide +kernel
theorem d1_19 : decode prog_99_method_5_code 19 = .ok (.bipush 95, 2) := by decide +kernel
theorem d1_21 : decode prog_99_method_5_code 21 = .ok (.if_icmp .eq 176, 3) := by decide +kernel
theorem d1_6 : decode prog_99_method_5_code 6 = .ok (.iload_n 0, 1) := by decide +kernel
theorem d1_7 : decode prog_99_method_5_code 7 = .ok (.bipush 65, 2) := by decide +kernel
theorem d1_9 : decode prog_99_method_5_code 9 = .ok (.if_icmp .lt 9, 3) := by decide +kernel
theorem d1_12 : decode prog_99_method_5_code 12 = .ok (.iload_n 0, 1) := by decide +kernel
theorem d1_13 : decode prog_99_method_5_code 13 = .ok (.bipush 90, 2) := by decide +kernel
theorem d1_15 : decode prog_99_method_5_code 15 = .ok (.if_icmp .le 182, 3) := by decide +kernel
theorem d1_0 : decode prog_99_method_5_code 0 = .ok (.iload_n 0, 1) := by decide +kernel
theorem d1_1 : decode prog_99_method_5_code 1 = .ok (.bipush 58, 2) := by decide +kernel
theorem d1_3 : decode prog_99_method_5_code 3 = .ok (.if_icmp .eq 194, 3) := by decide +kernel
theorem ef_rm1 (m : MethodId) (x0 : Int32) : entryFrame m #[(.int x0)] 1 = mkF m 0 #[.val (.int x0)] [] := by first | (simp [entryFrame, mkF, argsToLocals, Value.category]; done) | rfl
theorem pn_com_example_validated_xml_store_validatedxmlstore_XmlNames : plainName "com/example/validated_xml_store/validatedxmlstore/XmlNames" = true := by first | (simp [plainName, overriddenIn]; done) | decide +kernel
set_option maxRecDepth 65536 in
set_option maxHeartbeats 40000000 in
theorem rm1 (l : Launch) (Z : State) (a0 : Array Value) (hw : ∀ d ∈ tables_1, d.before a0 Z = true) (c1 : Int32) (h0 : Heap) (n0 : Nat) (Z0 : n0 ≤ h0.size)  :
    Con l Z (⟨"com/example/validated_xml_store/validatedxmlstore/XmlNames", "isNameStartChar", "(I)Z"⟩ : MethodName) prog_99_method_5_code 1 (some .boolean) ({ frames := 0, cells := 0, slots := 0, locals := 0 } : Room) #[(.int c1)] h0 (fun v h L => v = some (.int (own_ns c1)) ∧ Fr n0 L ∧ h = h0) := by
  refine meet (y := (⟨"com/example/validated_xml_store/validatedxmlstore/XmlNames", "isNameStartChar", "(I)Z"⟩ : MethodName)) (Q := fun v h L => v = some (.int (own_ns c1)) ∧ Fr n0 L ∧ h = h0) (plainFor_of_name pn_com_example_validated_xml_store_validatedxmlstore_XmlNames) (fun m => ef_rm1 m c1) ?_
  intro p e s m below meth c T0 hx hby hml hZ hown hnm hret hlk X0 e0
  have N0 := Fr.nil n0
  refine Go.join (α := Unit) (P := fun x => c1.toInt < 58 ∨ 59 ≤ c1.toInt) (F := fun x => T0.setTop (mkF m 6 #[.val (.int c1)] [])) ?_ ?_
  · rintro ⟨⟩ hJ6
    show Go p.tables e below s _ _ _ (T0.setTop (mkF m 6 #[.val (.int c1)] []))
    refine Go.join (α := Unit) (P := fun x => c1.toInt < 65 ∨ 91 ≤ c1.toInt) (F := fun x => T0.setTop (mkF m 18 #[.val (.int c1)] [])) ?_ ?_
    · rintro ⟨⟩ hJ18
      show Go p.tables e below s _ _ _ (T0.setTop (mkF m 18 #[.val (.int c1)] []))
      refine Go.join (α := Unit) (P := fun x => c1.toInt < 95 ∨ 96 ≤ c1.toInt) (F := fun x => T0.setTop (mkF m 24 #[.val (.int c1)] [])) ?_ ?_
      · rintro ⟨⟩ hJ24
        show Go p.tables e below s _ _ _ (T0.setTop (mkF m 24 #[.val (.int c1)] []))
        refine Go.join (α := Unit) (P := fun x => c1.toInt < 97 ∨ 123 ≤ c1.toInt) (F := fun x => T0.setTop (mkF m 36 #[.val (.int c1)] [])) ?_ ?_
        · rintro ⟨⟩ hJ36
          show Go p.tables e below s _ _ _ (T0.setTop (mkF m 36 #[.val (.int c1)] []))
          refine Go.join (α := Unit) (P := fun x => c1.toInt < 192 ∨ 215 ≤ c1.toInt) (F := fun x => T0.setTop (mkF m 50 #[.val (.int c1)] [])) ?_ ?_
          · rintro ⟨⟩ hJ50
            show Go p.tables e below s _ _ _ (T0.setTop (mkF m 50 #[.val (.int c1)] []))
            refine Go.join (α := Unit) (P := fun x => c1.toInt < 216 ∨ 247 ≤ c1.toInt) (F := fun x => T0.setTop (mkF m 64 #[.val (.int c1)] [])) ?_ ?_
            · rintro ⟨⟩ hJ64
              show Go p.tables e below s _ _ _ (T0.setTop (mkF m 64 #[.val (.int c1)] []))
              refine Go.join (α := Unit) (P := fun x => c1.toInt < 248 ∨ 768 ≤ c1.toInt) (F := fun x => T0.setTop (mkF m 78 #[.val (.int c1)] [])) ?_ ?_
              · rintro ⟨⟩ hJ78
                show Go p.tables e below s _ _ _ (T0.setTop (mkF m 78 #[.val (.int c1)] []))
                refine Go.join (α := Unit) (P := fun x => c1.toInt < 880 ∨ 894 ≤ c1.toInt) (F := fun x => T0.setTop (mkF m 92 #[.val (.int c1)] [])) ?_ ?_
                · rintro ⟨⟩ hJ92
                  show Go p.tables e below s _ _ _ (T0.setTop (mkF m 92 #[.val (.int c1)] []))
                  refine Go.join (α := Unit) (P := fun x => c1.toInt < 895 ∨ 8192 ≤ c1.toInt) (F := fun x => T0.setTop (mkF m 106 #[.val (.int c1)] [])) ?_ ?_
                  · rintro ⟨⟩ hJ106
                    show Go p.tables e below s _ _ _ (T0.setTop (mkF m 106 #[.val (.int c1)] []))
                    refine Go.join (α := Unit) (P := fun x => c1.toInt < 8204 ∨ 8206 ≤ c1.toInt) (F := fun x => T0.setTop (mkF m 120 #[.val (.int c1)] [])) ?_ ?_
                    · rintro ⟨⟩ hJ120
                      show Go p.tables e below s _ _ _ (T0.setTop (mkF m 120 #[.val (.int c1)] []))
                      refine Go.join (α := Unit) (P := fun x => c1.toInt < 8304 ∨ 8592 ≤ c1.toInt) (F := fun x => T0.setTop (mkF m 134 #[.val (.int c1)] [])) ?_ ?_
                      · rintro ⟨⟩ hJ134
                        show Go p.tables e below s _ _ _ (T0.setTop (mkF m 134 #[.val (.int c1)] []))
                        refine Go.join (α := Unit) (P := fun x => c1.toInt < 11264 ∨ 12272 ≤ c1.toInt) (F := fun x => T0.setTop (mkF m 148 #[.val (.int c1)] [])) ?_ ?_
                        · rintro ⟨⟩ hJ148
                          show Go p.tables e below s _ _ _ (T0.setTop (mkF m 148 #[.val (.int c1)] []))
                          refine Go.join (α := Unit) (P := fun x => c1.toInt < 12289 ∨ 55296 ≤ c1.toInt) (F := fun x => T0.setTop (mkF m 161 #[.val (.int c1)] [])) ?_ ?_
                          · rintro ⟨⟩ hJ161
                            show Go p.tables e below s _ _ _ (T0.setTop (mkF m 161 #[.val (.int c1)] []))
                            refine Go.join (α := Unit) (P := fun x => c1.toInt < 63744 ∨ 64976 ≤ c1.toInt) (F := fun x => T0.setTop (mkF m 173 #[.val (.int c1)] [])) ?_ ?_
                            · rintro ⟨⟩ hJ173
                              show Go p.tables e below s _ _ _ (T0.setTop (mkF m 173 #[.val (.int c1)] []))
                              refine Go.join (α := Unit) (P := fun x => c1.toInt < 65008 ∨ 65534 ≤ c1.toInt) (F := fun x => T0.setTop (mkF m 185 #[.val (.int c1)] [])) ?_ ?_
                              · rintro ⟨⟩ hJ185
                                show Go p.tables e below s _ _ _ (T0.setTop (mkF m 185 #[.val (.int c1)] []))
                                refine g_iloadN X0 hx hby d1_185 (pc' := 186) rfl rfl ?_
                                refine g_ldcI X0 hx hby hZ hown (wi hw 15 rfl) d1_186 (pc' := 188) rfl ?_
                                by_cases hc188 : c1.toInt < (65536 : Int)
                                · refine g_icmpYes X0 hx hby d1_188 (pc' := 201) (tlt (show c1 < (65536 : Int32) from Int32.lt_iff_toInt_lt.mpr hc188)).1 (by decide) (by decide) ?_
                                  refine g_iconst X0 hx hby d1_201 (pc' := 202) rfl (z := (0 : Int32)) rfl ?_
                                  refine Go.retZ X0 hx hlk hret (by simp) (hb hby d1_202) (by decide) (by decide) ?_
                                  exact ⟨by rw [own_ns, if_neg (by omega)]; rfl, N0, e0⟩
                                · refine g_icmpNo X0 hx hby d1_188 (pc' := 191) (flt (show ¬ (c1 < (65536 : Int32)) from fun q => hc188 (Int32.lt_iff_toInt_lt.mp q))).1 rfl ?_
                                  refine g_iloadN X0 hx hby d1_191 (pc' := 192) rfl rfl ?_
                                  refine g_ldcI X0 hx hby hZ hown (wi hw 19 rfl) d1_192 (pc' := 194) rfl ?_
                                  by_cases hc194 : (983039 : Int) < c1.toInt
                                  · refine g_icmpYes X0 hx hby d1_194 (pc' := 201) (tlt (show (983039 : Int32) < c1 from Int32.lt_iff_toInt_lt.mpr hc194)).2.2.1 (by decide) (by decide) ?_
                                    refine g_iconst X0 hx hby d1_201 (pc' := 202) rfl (z := (0 : Int32)) rfl ?_
                                    refine Go.retZ X0 hx hlk hret (by simp) (hb hby d1_202) (by decide) (by decide) ?_
                                    exact ⟨by rw [own_ns, if_neg (by omega)]; rfl, N0, e0⟩
                                  · refine g_icmpNo X0 hx hby d1_194 (pc' := 197) (flt (show ¬ ((983039 : Int32) < c1) from fun q => hc194 (Int32.lt_iff_toInt_lt.mp q))).2.2.1 rfl ?_
                                    refine g_iconst X0 hx hby d1_197 (pc' := 198) rfl (z := (1 : Int32)) rfl ?_
                                    refine g_goto X0 hx hby d1_198 (pc' := 202) (by decide) (by decide) ?_
                                    refine Go.retZ X0 hx hlk hret (by simp) (hb hby d1_202) (by decide) (by decide) ?_
                                    exact ⟨by rw [own_ns, if_pos (by omega)]; rfl, N0, e0⟩
                              intro J185
                              refine g_iloadN X0 hx hby d1_173 (pc' := 174) rfl rfl ?_
                              refine g_ldcI X0 hx hby hZ hown (wi hw 14 rfl) d1_174 (pc' := 176) rfl ?_
                              by_cases hc176 : c1.toInt < (65008 : Int)
                              · refine g_icmpYes X0 hx hby d1_176 (pc' := 185) (tlt (show c1 < (65008 : Int32) from Int32.lt_iff_toInt_lt.mpr hc176)).1 (by decide) (by decide) ?_
                                exact J185 (()) (by omega)
                              · refine g_icmpNo X0 hx hby d1_176 (pc' := 179) (flt (show ¬ (c1 < (65008 : Int32)) from fun q => hc176 (Int32.lt_iff_toInt_lt.mp q))).1 rfl ?_
                                refine g_iloadN X0 hx hby d1_179 (pc' := 180) rfl rfl ?_
                                refine g_ldcI X0 hx hby hZ hown (wi hw 18 rfl) d1_180 (pc' := 182) rfl ?_
                                by_cases hc182 : (65533 : Int) < c1.toInt
                                · refine g_icmpNo X0 hx hby d1_182 (pc' := 185) (tlt (show (65533 : Int32) < c1 from Int32.lt_iff_toInt_lt.mpr hc182)).2.2.2 rfl ?_
                                  exact J185 (()) (by omega)
                                · refine g_icmpYes X0 hx hby d1_182 (pc' := 197) (flt (show ¬ ((65533 : Int32) < c1) from fun q => hc182 (Int32.lt_iff_toInt_lt.mp q))).2.2.2 (by decide) (by decide) ?_
                                  refine g_iconst X0 hx hby d1_197 (pc' := 198) rfl (z := (1 : Int32)) rfl ?_
                                  refine g_goto X0 hx hby d1_198 (pc' := 202) (by decide) (by decide) ?_
                                  refine Go.retZ X0 hx hlk hret (by simp) (hb hby d1_202) (by decide) (by decide) ?_
                                  exact ⟨by rw [own_ns, if_pos (by omega)]; rfl, N0, e0⟩
                            intro J173
                            refine g_iloadN X0 hx hby d1_161 (pc' := 162) rfl rfl ?_
                            refine g_ldcI X0 hx hby hZ hown (wi hw 13 rfl) d1_162 (pc' := 164) rfl ?_
                            by_cases hc164 : c1.toInt < (63744 : Int)
                            · refine g_icmpYes X0 hx hby d1_164 (pc' := 173) (tlt (show c1 < (63744 : Int32) from Int32.lt_iff_toInt_lt.mpr hc164)).1 (by decide) (by decide) ?_
                              exact J173 (()) (by omega)
                            · refine g_icmpNo X0 hx hby d1_164 (pc' := 167) (flt (show ¬ (c1 < (63744 : Int32)) from fun q => hc164 (Int32.lt_iff_toInt_lt.mp q))).1 rfl ?_
                              refine g_iloadN X0 hx hby d1_167 (pc' := 168) rfl rfl ?_
                              refine g_ldcI X0 hx hby hZ hown (wi hw 17 rfl) d1_168 (pc' := 170) rfl ?_
                              by_cases hc170 : (64975 : Int) < c1.toInt
                              · refine g_icmpNo X0 hx hby d1_170 (pc' := 173) (tlt (show (64975 : Int32) < c1 from Int32.lt_iff_toInt_lt.mpr hc170)).2.2.2 rfl ?_
                                exact J173 (()) (by omega)
                              · refine g_icmpYes X0 hx hby d1_170 (pc' := 197) (flt (show ¬ ((64975 : Int32) < c1) from fun q => hc170 (Int32.lt_iff_toInt_lt.mp q))).2.2.2 (by decide) (by decide) ?_
                                refine g_iconst X0 hx hby d1_197 (pc' := 198) rfl (z := (1 : Int32)) rfl ?_
                                refine g_goto X0 hx hby d1_198 (pc' := 202) (by decide) (by decide) ?_
                                refine Go.retZ X0 hx hlk hret (by simp) (hb hby d1_202) (by decide) (by decide) ?_
                                exact ⟨by rw [own_ns, if_pos (by omega)]; rfl, N0, e0⟩
                          intro J161
                          refine g_iloadN X0 hx hby d1_148 (pc' := 149) rfl rfl ?_
                          refine g_sipush X0 hx hby d1_149 (pc' := 152) rfl (z := (12289 : Int32)) rfl ?_
                          by_cases hc152 : c1.toInt < (12289 : Int)
                          · refine g_icmpYes X0 hx hby d1_152 (pc' := 161) (tlt (show c1 < (12289 : Int32) from Int32.lt_iff_toInt_lt.mpr hc152)).1 (by decide) (by decide) ?_
                            exact J161 (()) (by omega)
                          · refine g_icmpNo X0 hx hby d1_152 (pc' := 155) (flt (show ¬ (c1 < (12289 : Int32)) from fun q => hc152 (Int32.lt_iff_toInt_lt.mp q))).1 rfl ?_
                            refine g_iloadN X0 hx hby d1_155 (pc' := 156) rfl rfl ?_
                            refine g_ldcI X0 hx hby hZ hown (wi hw 16 rfl) d1_156 (pc' := 158) rfl ?_
                            by_cases hc158 : (55295 : Int) < c1.toInt
                            · refine g_icmpNo X0 hx hby d1_158 (pc' := 161) (tlt (show (55295 : Int32) < c1 from Int32.lt_iff_toInt_lt.mpr hc158)).2.2.2 rfl ?_
                              exact J161 (()) (by omega)
                            · refine g_icmpYes X0 hx hby d1_158 (pc' := 197) (flt (show ¬ ((55295 : Int32) < c1) from fun q => hc158 (Int32.lt_iff_toInt_lt.mp q))).2.2.2 (by decide) (by decide) ?_
                              refine g_iconst X0 hx hby d1_197 (pc' := 198) rfl (z := (1 : Int32)) rfl ?_
                              refine g_goto X0 hx hby d1_198 (pc' := 202) (by decide) (by decide) ?_
                              refine Go.retZ X0 hx hlk hret (by simp) (hb hby d1_202) (by decide) (by decide) ?_
                              exact ⟨by rw [own_ns, if_pos (by omega)]; rfl, N0, e0⟩
                        intro J148
                        refine g_iloadN X0 hx hby d1_134 (pc' := 135) rfl rfl ?_
                        refine g_sipush X0 hx hby d1_135 (pc' := 138) rfl (z := (11264 : Int32)) rfl ?_
                        by_cases hc138 : c1.toInt < (11264 : Int)
                        · refine g_icmpYes X0 hx hby d1_138 (pc' := 148) (tlt (show c1 < (11264 : Int32) from Int32.lt_iff_toInt_lt.mpr hc138)).1 (by decide) (by decide) ?_
                          exact J148 (()) (by omega)
                        · refine g_icmpNo X0 hx hby d1_138 (pc' := 141) (flt (show ¬ (c1 < (11264 : Int32)) from fun q => hc138 (Int32.lt_iff_toInt_lt.mp q))).1 rfl ?_
                          refine g_iloadN X0 hx hby d1_141 (pc' := 142) rfl rfl ?_
                          refine g_sipush X0 hx hby d1_142 (pc' := 145) rfl (z := (12271 : Int32)) rfl ?_
                          by_cases hc145 : (12271 : Int) < c1.toInt
                          · refine g_icmpNo X0 hx hby d1_145 (pc' := 148) (tlt (show (12271 : Int32) < c1 from Int32.lt_iff_toInt_lt.mpr hc145)).2.2.2 rfl ?_
                            exact J148 (()) (by omega)
                          · refine g_icmpYes X0 hx hby d1_145 (pc' := 197) (flt (show ¬ ((12271 : Int32) < c1) from fun q => hc145 (Int32.lt_iff_toInt_lt.mp q))).2.2.2 (by decide) (by decide) ?_
                            refine g_iconst X0 hx hby d1_197 (pc' := 198) rfl (z := (1 : Int32)) rfl ?_
                            refine g_goto X0 hx hby d1_198 (pc' := 202) (by decide) (by decide) ?_
                            refine Go.retZ X0 hx hlk hret (by simp) (hb hby d1_202) (by decide) (by decide) ?_
                            exact ⟨by rw [own_ns, if_pos (by omega)]; rfl, N0, e0⟩
                      intro J134
                      refine g_iloadN X0 hx hby d1_120 (pc' := 121) rfl rfl ?_
                      refine g_sipush X0 hx hby d1_121 (pc' := 124) rfl (z := (8304 : Int32)) rfl ?_
                      by_cases hc124 : c1.toInt < (8304 : Int)
                      · refine g_icmpYes X0 hx hby d1_124 (pc' := 134) (tlt (show c1 < (8304 : Int32) from Int32.lt_iff_toInt_lt.mpr hc124)).1 (by decide) (by decide) ?_
                        exact J134 (()) (by omega)
                      · refine g_icmpNo X0 hx hby d1_124 (pc' := 127) (flt (show ¬ (c1 < (8304 : Int32)) from fun q => hc124 (Int32.lt_iff_toInt_lt.mp q))).1 rfl ?_
                        refine g_iloadN X0 hx hby d1_127 (pc' := 128) rfl rfl ?_
                        refine g_sipush X0 hx hby d1_128 (pc' := 131) rfl (z := (8591 : Int32)) rfl ?_
                        by_cases hc131 : (8591 : Int) < c1.toInt
                        · refine g_icmpNo X0 hx hby d1_131 (pc' := 134) (tlt (show (8591 : Int32) < c1 from Int32.lt_iff_toInt_lt.mpr hc131)).2.2.2 rfl ?_
                          exact J134 (()) (by omega)
                        · refine g_icmpYes X0 hx hby d1_131 (pc' := 197) (flt (show ¬ ((8591 : Int32) < c1) from fun q => hc131 (Int32.lt_iff_toInt_lt.mp q))).2.2.2 (by decide) (by decide) ?_
                          refine g_iconst X0 hx hby d1_197 (pc' := 198) rfl (z := (1 : Int32)) rfl ?_
                          refine g_goto X0 hx hby d1_198 (pc' := 202) (by decide) (by decide) ?_
                          refine Go.retZ X0 hx hlk hret (by simp) (hb hby d1_202) (by decide) (by decide) ?_
                          exact ⟨by rw [own_ns, if_pos (by omega)]; rfl, N0, e0⟩
                    intro J120
                    refine g_iloadN X0 hx hby d1_106 (pc' := 107) rfl rfl ?_
                    refine g_sipush X0 hx hby d1_107 (pc' := 110) rfl (z := (8204 : Int32)) rfl ?_
                    by_cases hc110 : c1.toInt < (8204 : Int)
                    · refine g_icmpYes X0 hx hby d1_110 (pc' := 120) (tlt (show c1 < (8204 : Int32) from Int32.lt_iff_toInt_lt.mpr hc110)).1 (by decide) (by decide) ?_
                      exact J120 (()) (by omega)
                    · refine g_icmpNo X0 hx hby d1_110 (pc' := 113) (flt (show ¬ (c1 < (8204 : Int32)) from fun q => hc110 (Int32.lt_iff_toInt_lt.mp q))).1 rfl ?_
                      refine g_iloadN X0 hx hby d1_113 (pc' := 114) rfl rfl ?_
                      refine g_sipush X0 hx hby d1_114 (pc' := 117) rfl (z := (8205 : Int32)) rfl ?_
                      by_cases hc117 : (8205 : Int) < c1.toInt
                      · refine g_icmpNo X0 hx hby d1_117 (pc' := 120) (tlt (show (8205 : Int32) < c1 from Int32.lt_iff_toInt_lt.mpr hc117)).2.2.2 rfl ?_
                        exact J120 (()) (by omega)
                      · refine g_icmpYes X0 hx hby d1_117 (pc' := 197) (flt (show ¬ ((8205 : Int32) < c1) from fun q => hc117 (Int32.lt_iff_toInt_lt.mp q))).2.2.2 (by decide) (by decide) ?_
                        refine g_iconst X0 hx hby d1_197 (pc' := 198) rfl (z := (1 : Int32)) rfl ?_
                        refine g_goto X0 hx hby d1_198 (pc' := 202) (by decide) (by decide) ?_
                        refine Go.retZ X0 hx hlk hret (by simp) (hb hby d1_202) (by decide) (by decide) ?_
                        exact ⟨by rw [own_ns, if_pos (by omega)]; rfl, N0, e0⟩
                  intro J106
                  refine g_iloadN X0 hx hby d1_92 (pc' := 93) rfl rfl ?_
                  refine g_sipush X0 hx hby d1_93 (pc' := 96) rfl (z := (895 : Int32)) rfl ?_
                  by_cases hc96 : c1.toInt < (895 : Int)
                  · refine g_icmpYes X0 hx hby d1_96 (pc' := 106) (tlt (show c1 < (895 : Int32) from Int32.lt_iff_toInt_lt.mpr hc96)).1 (by decide) (by decide) ?_
                    exact J106 (()) (by omega)
                  · refine g_icmpNo X0 hx hby d1_96 (pc' := 99) (flt (show ¬ (c1 < (895 : Int32)) from fun q => hc96 (Int32.lt_iff_toInt_lt.mp q))).1 rfl ?_
                    refine g_iloadN X0 hx hby d1_99 (pc' := 100) rfl rfl ?_
                    refine g_sipush X0 hx hby d1_100 (pc' := 103) rfl (z := (8191 : Int32)) rfl ?_
                    by_cases hc103 : (8191 : Int) < c1.toInt
                    · refine g_icmpNo X0 hx hby d1_103 (pc' := 106) (tlt (show (8191 : Int32) < c1 from Int32.lt_iff_toInt_lt.mpr hc103)).2.2.2 rfl ?_
                      exact J106 (()) (by omega)
                    · refine g_icmpYes X0 hx hby d1_103 (pc' := 197) (flt (show ¬ ((8191 : Int32) < c1) from fun q => hc103 (Int32.lt_iff_toInt_lt.mp q))).2.2.2 (by decide) (by decide) ?_
                      refine g_iconst X0 hx hby d1_197 (pc' := 198) rfl (z := (1 : Int32)) rfl ?_
                      refine g_goto X0 hx hby d1_198 (pc' := 202) (by decide) (by decide) ?_
                      refine Go.retZ X0 hx hlk hret (by simp) (hb hby d1_202) (by decide) (by decide) ?_
                      exact ⟨by rw [own_ns, if_pos (by omega)]; rfl, N0, e0⟩
                intro J92
                refine g_iloadN X0 hx hby d1_78 (pc' := 79) rfl rfl ?_
                refine g_sipush X0 hx hby d1_79 (pc' := 82) rfl (z := (880 : Int32)) rfl ?_
                by_cases hc82 : c1.toInt < (880 : Int)
                · refine g_icmpYes X0 hx hby d1_82 (pc' := 92) (tlt (show c1 < (880 : Int32) from Int32.lt_iff_toInt_lt.mpr hc82)).1 (by decide) (by decide) ?_
                  exact J92 (()) (by omega)
                · refine g_icmpNo X0 hx hby d1_82 (pc' := 85) (flt (show ¬ (c1 < (880 : Int32)) from fun q => hc82 (Int32.lt_iff_toInt_lt.mp q))).1 rfl ?_
                  refine g_iloadN X0 hx hby d1_85 (pc' := 86) rfl rfl ?_
                  refine g_sipush X0 hx hby d1_86 (pc' := 89) rfl (z := (893 : Int32)) rfl ?_
                  by_cases hc89 : (893 : Int) < c1.toInt
                  · refine g_icmpNo X0 hx hby d1_89 (pc' := 92) (tlt (show (893 : Int32) < c1 from Int32.lt_iff_toInt_lt.mpr hc89)).2.2.2 rfl ?_
                    exact J92 (()) (by omega)
                  · refine g_icmpYes X0 hx hby d1_89 (pc' := 197) (flt (show ¬ ((893 : Int32) < c1) from fun q => hc89 (Int32.lt_iff_toInt_lt.mp q))).2.2.2 (by decide) (by decide) ?_
                    refine g_iconst X0 hx hby d1_197 (pc' := 198) rfl (z := (1 : Int32)) rfl ?_
                    refine g_goto X0 hx hby d1_198 (pc' := 202) (by decide) (by decide) ?_
                    refine Go.retZ X0 hx hlk hret (by simp) (hb hby d1_202) (by decide) (by decide) ?_
                    exact ⟨by rw [own_ns, if_pos (by omega)]; rfl, N0, e0⟩
              intro J78
              refine g_iloadN X0 hx hby d1_64 (pc' := 65) rfl rfl ?_
              refine g_sipush X0 hx hby d1_65 (pc' := 68) rfl (z := (248 : Int32)) rfl ?_
              by_cases hc68 : c1.toInt < (248 : Int)
              · refine g_icmpYes X0 hx hby d1_68 (pc' := 78) (tlt (show c1 < (248 : Int32) from Int32.lt_iff_toInt_lt.mpr hc68)).1 (by decide) (by decide) ?_
                exact J78 (()) (by omega)
              · refine g_icmpNo X0 hx hby d1_68 (pc' := 71) (flt (show ¬ (c1 < (248 : Int32)) from fun q => hc68 (Int32.lt_iff_toInt_lt.mp q))).1 rfl ?_
                refine g_iloadN X0 hx hby d1_71 (pc' := 72) rfl rfl ?_
                refine g_sipush X0 hx hby d1_72 (pc' := 75) rfl (z := (767 : Int32)) rfl ?_
                by_cases hc75 : (767 : Int) < c1.toInt
                · refine g_icmpNo X0 hx hby d1_75 (pc' := 78) (tlt (show (767 : Int32) < c1 from Int32.lt_iff_toInt_lt.mpr hc75)).2.2.2 rfl ?_
                  exact J78 (()) (by omega)
                · refine g_icmpYes X0 hx hby d1_75 (pc' := 197) (flt (show ¬ ((767 : Int32) < c1) from fun q => hc75 (Int32.lt_iff_toInt_lt.mp q))).2.2.2 (by decide) (by decide) ?_
                  refine g_iconst X0 hx hby d1_197 (pc' := 198) rfl (z := (1 : Int32)) rfl ?_
                  refine g_goto X0 hx hby d1_198 (pc' := 202) (by decide) (by decide) ?_
                  refine Go.retZ X0 hx hlk hret (by simp) (hb hby d1_202) (by decide) (by decide) ?_
                  exact ⟨by rw [own_ns, if_pos (by omega)]; rfl, N0, e0⟩
            intro J64
            refine g_iloadN X0 hx hby d1_50 (pc' := 51) rfl rfl ?_
            refine g_sipush X0 hx hby d1_51 (pc' := 54) rfl (z := (216 : Int32)) rfl ?_
            by_cases hc54 : c1.toInt < (216 : Int)
            · refine g_icmpYes X0 hx hby d1_54 (pc' := 64) (tlt (show c1 < (216 : Int32) from Int32.lt_iff_toInt_lt.mpr hc54)).1 (by decide) (by decide) ?_
              exact J64 (()) (by omega)
            · refine g_icmpNo X0 hx hby d1_54 (pc' := 57) (flt (show ¬ (c1 < (216 : Int32)) from fun q => hc54 (Int32.lt_iff_toInt_lt.mp q))).1 rfl ?_
              refine g_iloadN X0 hx hby d1_57 (pc' := 58) rfl rfl ?_
              refine g_sipush X0 hx hby d1_58 (pc' := 61) rfl (z := (246 : Int32)) rfl ?_
              by_cases hc61 : (246 : Int) < c1.toInt
              · refine g_icmpNo X0 hx hby d1_61 (pc' := 64) (tlt (show (246 : Int32) < c1 from Int32.lt_iff_toInt_lt.mpr hc61)).2.2.2 rfl ?_
                exact J64 (()) (by omega)
              · refine g_icmpYes X0 hx hby d1_61 (pc' := 197) (flt (show ¬ ((246 : Int32) < c1) from fun q => hc61 (Int32.lt_iff_toInt_lt.mp q))).2.2.2 (by decide) (by decide) ?_
                refine g_iconst X0 hx hby d1_197 (pc' := 198) rfl (z := (1 : Int32)) rfl ?_
                refine g_goto X0 hx hby d1_198 (pc' := 202) (by decide) (by decide) ?_
                refine Go.retZ X0 hx hlk hret (by simp) (hb hby d1_202) (by decide) (by decide) ?_
                exact ⟨by rw [own_ns, if_pos (by omega)]; rfl, N0, e0⟩
          intro J50
          refine g_iloadN X0 hx hby d1_36 (pc' := 37) rfl rfl ?_
          refine g_sipush X0 hx hby d1_37 (pc' := 40) rfl (z := (192 : Int32)) rfl ?_
          by_cases hc40 : c1.toInt < (192 : Int)
          · refine g_icmpYes X0 hx hby d1_40 (pc' := 50) (tlt (show c1 < (192 : Int32) from Int32.lt_iff_toInt_lt.mpr hc40)).1 (by decide) (by decide) ?_
            exact J50 (()) (by omega)
          · refine g_icmpNo X0 hx hby d1_40 (pc' := 43) (flt (show ¬ (c1 < (192 : Int32)) from fun q => hc40 (Int32.lt_iff_toInt_lt.mp q))).1 rfl ?_
            refine g_iloadN X0 hx hby d1_43 (pc' := 44) rfl rfl ?_
            refine g_sipush X0 hx hby d1_44 (pc' := 47) rfl (z := (214 : Int32)) rfl ?_
            by_cases hc47 : (214 : Int) < c1.toInt
            · refine g_icmpNo X0 hx hby d1_47 (pc' := 50) (tlt (show (214 : Int32) < c1 from Int32.lt_iff_toInt_lt.mpr hc47)).2.2.2 rfl ?_
              exact J50 (()) (by omega)
            · refine g_icmpYes X0 hx hby d1_47 (pc' := 197) (flt (show ¬ ((214 : Int32) < c1) from fun q => hc47 (Int32.lt_iff_toInt_lt.mp q))).2.2.2 (by decide) (by decide) ?_
              refine g_iconst X0 hx hby d1_197 (pc' := 198) rfl (z := (1 : Int32)) rfl ?_
              refine g_goto X0 hx hby d1_198 (pc' := 202) (by decide) (by decide) ?_
              refine Go.retZ X0 hx hlk hret (by simp) (hb hby d1_202) (by decide) (by decide) ?_
              exact ⟨by rw [own_ns, if_pos (by omega)]; rfl, N0, e0⟩
        intro J36
        refine g_iloadN X0 hx hby d1_24 (pc' := 25) rfl rfl ?_
        refine g_bipush X0 hx hby d1_25 (pc' := 27) rfl (z := (97 : Int32)) rfl ?_
        by_cases hc27 : c1.toInt < (97 : Int)
        · refine g_icmpYes X0 hx hby d1_27 (pc' := 36) (tlt (show c1 < (97 : Int32) from Int32.lt_iff_toInt_lt.mpr hc27)).1 (by decide) (by decide) ?_
          exact J36 (()) (by omega)
        · refine g_icmpNo X0 hx hby d1_27 (pc' := 30) (flt (show ¬ (c1 < (97 : Int32)) from fun q => hc27 (Int32.lt_iff_toInt_lt.mp q))).1 rfl ?_
          refine g_iloadN X0 hx hby d1_30 (pc' := 31) rfl rfl ?_
          refine g_bipush X0 hx hby d1_31 (pc' := 33) rfl (z := (122 : Int32)) rfl ?_
          by_cases hc33 : (122 : Int) < c1.toInt
          · refine g_icmpNo X0 hx hby d1_33 (pc' := 36) (tlt (show (122 : Int32) < c1 from Int32.lt_iff_toInt_lt.mpr hc33)).2.2.2 rfl ?_
            exact J36 (()) (by omega)
          · refine g_icmpYes X0 hx hby d1_33 (pc' := 197) (flt (show ¬ ((122 : Int32) < c1) from fun q => hc33 (Int32.lt_iff_toInt_lt.mp q))).2.2.2 (by decide) (by decide) ?_
            refine g_iconst X0 hx hby d1_197 (pc' := 198) rfl (z := (1 : Int32)) rfl ?_
            refine g_goto X0 hx hby d1_198 (pc' := 202) (by decide) (by decide) ?_
            refine Go.retZ X0 hx hlk hret (by simp) (hb hby d1_202) (by decide) (by decide) ?_
            exact ⟨by rw [own_ns, if_pos (by omega)]; rfl, N0, e0⟩
      intro J24
      refine g_iloadN X0 hx hby d1_18 (pc' := 19) rfl rfl ?_
      refine g_bipush X0 hx hby d1_19 (pc' := 21) rfl (z := (95 : Int32)) rfl ?_
      by_cases hc21 : c1.toInt = (95 : Int)
      · refine g_icmpYes X0 hx hby d1_21 (pc' := 197) (teq (show c1 = (95 : Int32) from Int32.toInt_inj.mp hc21)).1 (by decide) (by decide) ?_
        refine g_iconst X0 hx hby d1_197 (pc' := 198) rfl (z := (1 : Int32)) rfl ?_
        refine g_goto X0 hx hby d1_198 (pc' := 202) (by decide) (by decide) ?_
        refine Go.retZ X0 hx hlk hret (by simp) (hb hby d1_202) (by decide) (by decide) ?_
        exact ⟨by rw [own_ns, if_pos (by omega)]; rfl, N0, e0⟩
      · refine g_icmpNo X0 hx hby d1_21 (pc' := 24) (feq (show ¬ (c1 = (95 : Int32)) from fun q => hc21 (congrArg Int32.toInt q))).1 rfl ?_
        exact J24 (()) (by omega)
    intro J18
    refine g_iloadN X0 hx hby d1_6 (pc' := 7) rfl rfl ?_
    refine g_bipush X0 hx hby d1_7 (pc' := 9) rfl (z := (65 : Int32)) rfl ?_
    by_cases hc9 : c1.toInt < (65 : Int)
    · refine g_icmpYes X0 hx hby d1_9 (pc' := 18) (tlt (show c1 < (65 : Int32) from Int32.lt_iff_toInt_lt.mpr hc9)).1 (by decide) (by decide) ?_
      exact J18 (()) (by omega)
    · refine g_icmpNo X0 hx hby d1_9 (pc' := 12) (flt (show ¬ (c1 < (65 : Int32)) from fun q => hc9 (Int32.lt_iff_toInt_lt.mp q))).1 rfl ?_
      refine g_iloadN X0 hx hby d1_12 (pc' := 13) rfl rfl ?_
      refine g_bipush X0 hx hby d1_13 (pc' := 15) rfl (z := (90 : Int32)) rfl ?_
      by_cases hc15 : (90 : Int) < c1.toInt
      · refine g_icmpNo X0 hx hby d1_15 (pc' := 18) (tlt (show (90 : Int32) < c1 from Int32.lt_iff_toInt_lt.mpr hc15)).2.2.2 rfl ?_
        exact J18 (()) (by omega)
      · refine g_icmpYes X0 hx hby d1_15 (pc' := 197) (flt (show ¬ ((90 : Int32) < c1) from fun q => hc15 (Int32.lt_iff_toInt_lt.mp q))).2.2.2 (by decide) (by decide) ?_
        refine g_iconst X0 hx hby d1_197 (pc' := 198) rfl (z := (1 : Int32)) rfl ?_
        refine g_goto X0 hx hby d1_198 (pc' := 202) (by decide) (by decide) ?_
        refine Go.retZ X0 hx hlk hret (by simp) (hb hby d1_202) (by decide) (by decide) ?_
        exact ⟨by rw [own_ns, if_pos (by omega)]; rfl, N0, e0⟩
  intro J6
  refine g_iloadN X0 hx hby d1_0 (pc' := 1) rfl rfl ?_
  refine g_bipush X0 hx hby d1_1 (pc' := 3) rfl (z := (58 : Int32)) rfl ?_
  by_cases hc3 : c1.toInt = (58 : Int)
  · refine g_icmpYes X0 hx hby d1_3 (pc' := 197) (teq (show c1 = (58 : Int32) from Int32.toInt_inj.mp hc3)).1 (by decide) (by decide) ?_
    refine g_iconst X0 hx hby d1_197 (pc' := 198) rfl (z := (1 : Int32)) rfl ?_
    refine g_goto X0 hx hby d1_198 (pc' := 202) (by decide) (by decide) ?_
    refine Go.retZ X0 hx hlk hret (by simp) (hb hby d1_202) (by decide) (by decide) ?_
    exact ⟨by rw [own_ns, if_pos (by omega)]; rfl, N0, e0⟩
  · refine g_icmpNo X0 hx hby d1_3 (pc' := 6) (feq (show ¬ (c1 = (58 : Int32)) from fun q => hc3 (congrArg Int32.toInt q))).1 rfl ?_
    exact J6 (()) (by omega)
theorem pd_aIzZ : parseMethodDescriptor "(I)Z" = some ⟨[.int], some .boolean⟩ := by decide +kernel
theorem ef_rm0 (m : MethodId) (x0 : Int32) (x1 : Int32) (x2 : Int32) : entryFrame m #[(.int x0), (.int x1), (.int x2)] maxLocals = mkF m 0 #[.val (.int x0), .val (.int x1), .val (.int x2), .unset, .unset, .unset, .unset, .unset] [] := by first | (simp [entryFrame, mkF, argsToLocals, Value.category, maxLocals]; done) | rfl
theorem pn_com_example_validated_xml_store_validatedxmlstore_XmlNamesIsNameStartCharPinLaw : plainName "com/example/validated_xml_store/validatedxmlstore/XmlNamesIsNameStartCharPinLaw" = true := by first | (simp [plainName, overriddenIn]; done) | decide +kernel
set_option maxRecDepth 65536 in
set_option maxHeartbeats 40000000 in
theorem rm0 (l : Launch) (Z : State) (a0 : Array Value) (hw : ∀ d ∈ tables_1, d.before a0 Z = true) (ws : List Jvm.Cond) (p1 p2 p3 : Int32) (h0 : Heap) (n0 : Nat) (Z0 : n0 ≤ h0.size)  :
    MetFree l x (head1 (Jvm.Cond.code x code maxLocals ret :: ws) room_1) (fun a U => a = #[(.int p1), (.int p2), (.int p3)] ∧ Z.Warmed39 U.vm ∧ U.heap = h0) (fun _ _ _ _ _ => True) (fun _ U o U' => ∃ v L, o = .returned v ∧ (fun v h L => v = some (.int 1) ∧ Fr n0 L) v U'.heap L ∧ FrameEnd U o U' L room_1.cells room_1.slots) := by
  refine meet (y := x) (Q := fun v h L => v = some (.int 1) ∧ Fr n0 L) (plainFor_of_name pn_com_example_validated_xml_store_validatedxmlstore_XmlNamesIsNameStartCharPinLaw) (fun m => ef_rm0 m p1 p2 p3) ?_
  intro p e s m below meth c T0 hx hby hml hZ hown hnm hret hlk X0 e0
  have N0 := Fr.nil n0
  have hml : c.maxLocals = 8 := hml
  refine g_bipush X0 hx hby at_0 (pc' := 2) rfl (z := (32 : Int32)) rfl ?_
  refine Go.newarr X0 hx hZ (n := 32) (cap := 32) (ty := .int) rfl (wi hw 0 rfl) e0 (by decide) rfl (by decide) (by decide) (by decide) (by decide) (hb hby at_2) ?_
  intro T1 h1 b1 X1 e1 E1 hb1 V1
  have g2 : n0 ≤ b1 := by rw [hb1]; exact Z0
  have V3 : ArF Z h1 b1 .int 32 (fun i => .int ((fun _ => (0 : Int32)) i)) := V1
  show Go p.tables e below s _ _ _ (T1.setTop (mkF m 4 #[.val (.int p1), .val (.int p2), .val (.int p3), .unset, .unset, .unset, .unset, .unset] [(.ref b1)]))
  refine g_dup X1 hx hby at_4 (pc' := 5) rfl rfl ?_
  refine g_iconst X1 hx hby at_5 (pc' := 6) rfl (z := (0 : Int32)) rfl ?_
  refine g_bipush X1 hx hby at_6 (pc' := 8) rfl (z := (58 : Int32)) rfl ?_
  refine Go.iastore X1 hx hZ e1 V3 (k := 0) rfl (by decide) (hb hby at_8) ?_
  intro T4 h4 X4 e4 W4 V4
  show Go p.tables e below s _ _ _ (T4.setTop (mkF m 9 #[.val (.int p1), .val (.int p2), .val (.int p3), .unset, .unset, .unset, .unset, .unset] [(.ref b1)]))
  refine g_dup X4 hx hby at_9 (pc' := 10) rfl rfl ?_
  refine g_iconst X4 hx hby at_10 (pc' := 11) rfl (z := (1 : Int32)) rfl ?_
  refine g_bipush X4 hx hby at_11 (pc' := 13) rfl (z := (59 : Int32)) rfl ?_
  refine Go.iastore X4 hx hZ e4 V4 (k := 1) rfl (by decide) (hb hby at_13) ?_
  intro T5 h5 X5 e5 W5 V5
  show Go p.tables e below s _ _ _ (T5.setTop (mkF m 14 #[.val (.int p1), .val (.int p2), .val (.int p3), .unset, .unset, .unset, .unset, .unset] [(.ref b1)]))
  refine g_dup X5 hx hby at_14 (pc' := 15) rfl rfl ?_
  refine g_iconst X5 hx hby at_15 (pc' := 16) rfl (z := (2 : Int32)) rfl ?_
  refine g_bipush X5 hx hby at_16 (pc' := 18) rfl (z := (65 : Int32)) rfl ?_
  refine Go.iastore X5 hx hZ e5 V5 (k := 2) rfl (by decide) (hb hby at_18) ?_
  intro T6 h6 X6 e6 W6 V6
  have z7 : n0 ≤ h6.size := (Nat.le_trans (Nat.le_trans (Nat.le_trans (Nat.le_trans Z0 E1.1) (Nat.le_of_eq (Wr.size W4).symm)) (Nat.le_of_eq (Wr.size W5).symm)) (Nat.le_of_eq (Wr.size W6).symm))
  show Go p.tables e below s _ _ _ (T6.setTop (mkF m 19 #[.val (.int p1), .val (.int p2), .val (.int p3), .unset, .unset, .unset, .unset, .unset] [(.ref b1)]))
  refine g_dup X6 hx hby at_19 (pc' := 20) rfl rfl ?_
  refine g_iconst X6 hx hby at_20 (pc' := 21) rfl (z := (3 : Int32)) rfl ?_
  refine g_bipush X6 hx hby at_21 (pc' := 23) rfl (z := (91 : Int32)) rfl ?_
  refine Go.iastore X6 hx hZ e6 V6 (k := 3) rfl (by decide) (hb hby at_23) ?_
  intro T8 h8 X8 e8 W8 V8
  show Go p.tables e below s _ _ _ (T8.setTop (mkF m 24 #[.val (.int p1), .val (.int p2), .val (.int p3), .unset, .unset, .unset, .unset, .unset] [(.ref b1)]))
  refine g_dup X8 hx hby at_24 (pc' := 25) rfl rfl ?_
  refine g_iconst X8 hx hby at_25 (pc' := 26) rfl (z := (4 : Int32)) rfl ?_
  refine g_bipush X8 hx hby at_26 (pc' := 28) rfl (z := (95 : Int32)) rfl ?_
  refine Go.iastore X8 hx hZ e8 V8 (k := 4) rfl (by decide) (hb hby at_28) ?_
  intro T9 h9 X9 e9 W9 V9
  show Go p.tables e below s _ _ _ (T9.setTop (mkF m 29 #[.val (.int p1), .val (.int p2), .val (.int p3), .unset, .unset, .unset, .unset, .unset] [(.ref b1)]))
  refine g_dup X9 hx hby at_29 (pc' := 30) rfl rfl ?_
  refine g_iconst X9 hx hby at_30 (pc' := 31) rfl (z := (5 : Int32)) rfl ?_
  refine g_bipush X9 hx hby at_31 (pc' := 33) rfl (z := (96 : Int32)) rfl ?_
  refine Go.iastore X9 hx hZ e9 V9 (k := 5) rfl (by decide) (hb hby at_33) ?_
  intro T10 h10 X10 e10 W10 V10
  show Go p.tables e below s _ _ _ (T10.setTop (mkF m 34 #[.val (.int p1), .val (.int p2), .val (.int p3), .unset, .unset, .unset, .unset, .unset] [(.ref b1)]))
  refine g_dup X10 hx hby at_34 (pc' := 35) rfl rfl ?_
  refine g_bipush X10 hx hby at_35 (pc' := 37) rfl (z := (6 : Int32)) rfl ?_
  refine g_bipush X10 hx hby at_37 (pc' := 39) rfl (z := (97 : Int32)) rfl ?_
  refine Go.iastore X10 hx hZ e10 V10 (k := 6) rfl (by decide) (hb hby at_39) ?_
  intro T11 h11 X11 e11 W11 V11
  have z12 : n0 ≤ h11.size := (Nat.le_trans (Nat.le_trans (Nat.le_trans (Nat.le_trans z7 (Nat.le_of_eq (Wr.size W8).symm)) (Nat.le_of_eq (Wr.size W9).symm)) (Nat.le_of_eq (Wr.size W10).symm)) (Nat.le_of_eq (Wr.size W11).symm))
  show Go p.tables e below s _ _ _ (T11.setTop (mkF m 40 #[.val (.int p1), .val (.int p2), .val (.int p3), .unset, .unset, .unset, .unset, .unset] [(.ref b1)]))
  refine g_dup X11 hx hby at_40 (pc' := 41) rfl rfl ?_
  refine g_bipush X11 hx hby at_41 (pc' := 43) rfl (z := (7 : Int32)) rfl ?_
  refine g_bipush X11 hx hby at_43 (pc' := 45) rfl (z := (123 : Int32)) rfl ?_
  refine Go.iastore X11 hx hZ e11 V11 (k := 7) rfl (by decide) (hb hby at_45) ?_
  intro T13 h13 X13 e13 W13 V13
  have N13 := (Fr.snoc X13 (Fr.snoc X11 (Fr.snoc X10 (Fr.snoc X9 (Fr.snoc X8 (Fr.snoc X6 (Fr.snoc X5 (Fr.snoc X4 N0 g2) g2) g2) g2) g2) g2) g2) g2)
  show Go p.tables e below s _ _ _ (T13.setTop (mkF m 46 #[.val (.int p1), .val (.int p2), .val (.int p3), .unset, .unset, .unset, .unset, .unset] [(.ref b1)]))
  refine g_dup X13 hx hby at_46 (pc' := 47) rfl rfl ?_
  refine g_bipush X13 hx hby at_47 (pc' := 49) rfl (z := (8 : Int32)) rfl ?_
  refine g_sipush X13 hx hby at_49 (pc' := 52) rfl (z := (192 : Int32)) rfl ?_
  refine Go.iastore X13 hx hZ e13 V13 (k := 8) rfl (by decide) (hb hby at_52) ?_
  intro T14 h14 X14 e14 W14 V14
  show Go p.tables e below s _ _ _ (T14.setTop (mkF m 53 #[.val (.int p1), .val (.int p2), .val (.int p3), .unset, .unset, .unset, .unset, .unset] [(.ref b1)]))
  refine g_dup X14 hx hby at_53 (pc' := 54) rfl rfl ?_
  refine g_bipush X14 hx hby at_54 (pc' := 56) rfl (z := (9 : Int32)) rfl ?_
  refine g_sipush X14 hx hby at_56 (pc' := 59) rfl (z := (215 : Int32)) rfl ?_
  refine Go.iastore X14 hx hZ e14 V14 (k := 9) rfl (by decide) (hb hby at_59) ?_
  intro T15 h15 X15 e15 W15 V15
  show Go p.tables e below s _ _ _ (T15.setTop (mkF m 60 #[.val (.int p1), .val (.int p2), .val (.int p3), .unset, .unset, .unset, .unset, .unset] [(.ref b1)]))
  refine g_dup X15 hx hby at_60 (pc' := 61) rfl rfl ?_
  refine g_bipush X15 hx hby at_61 (pc' := 63) rfl (z := (10 : Int32)) rfl ?_
  refine g_sipush X15 hx hby at_63 (pc' := 66) rfl (z := (216 : Int32)) rfl ?_
  refine Go.iastore X15 hx hZ e15 V15 (k := 10) rfl (by decide) (hb hby at_66) ?_
  intro T16 h16 X16 e16 W16 V16
  have z17 : n0 ≤ h16.size := (Nat.le_trans (Nat.le_trans (Nat.le_trans (Nat.le_trans z12 (Nat.le_of_eq (Wr.size W13).symm)) (Nat.le_of_eq (Wr.size W14).symm)) (Nat.le_of_eq (Wr.size W15).symm)) (Nat.le_of_eq (Wr.size W16).symm))
  show Go p.tables e below s _ _ _ (T16.setTop (mkF m 67 #[.val (.int p1), .val (.int p2), .val (.int p3), .unset, .unset, .unset, .unset, .unset] [(.ref b1)]))
  refine g_dup X16 hx hby at_67 (pc' := 68) rfl rfl ?_
  refine g_bipush X16 hx hby at_68 (pc' := 70) rfl (z := (11 : Int32)) rfl ?_
  refine g_sipush X16 hx hby at_70 (pc' := 73) rfl (z := (247 : Int32)) rfl ?_
  refine Go.iastore X16 hx hZ e16 V16 (k := 11) rfl (by decide) (hb hby at_73) ?_
  intro T18 h18 X18 e18 W18 V18
  show Go p.tables e below s _ _ _ (T18.setTop (mkF m 74 #[.val (.int p1), .val (.int p2), .val (.int p3), .unset, .unset, .unset, .unset, .unset] [(.ref b1)]))
  refine g_dup X18 hx hby at_74 (pc' := 75) rfl rfl ?_
  refine g_bipush X18 hx hby at_75 (pc' := 77) rfl (z := (12 : Int32)) rfl ?_
  refine g_sipush X18 hx hby at_77 (pc' := 80) rfl (z := (248 : Int32)) rfl ?_
  refine Go.iastore X18 hx hZ e18 V18 (k := 12) rfl (by decide) (hb hby at_80) ?_
  intro T19 h19 X19 e19 W19 V19
  show Go p.tables e below s _ _ _ (T19.setTop (mkF m 81 #[.val (.int p1), .val (.int p2), .val (.int p3), .unset, .unset, .unset, .unset, .unset] [(.ref b1)]))
  refine g_dup X19 hx hby at_81 (pc' := 82) rfl rfl ?_
  refine g_bipush X19 hx hby at_82 (pc' := 84) rfl (z := (13 : Int32)) rfl ?_
  refine g_sipush X19 hx hby at_84 (pc' := 87) rfl (z := (768 : Int32)) rfl ?_
  refine Go.iastore X19 hx hZ e19 V19 (k := 13) rfl (by decide) (hb hby at_87) ?_
  intro T20 h20 X20 e20 W20 V20
  show Go p.tables e below s _ _ _ (T20.setTop (mkF m 88 #[.val (.int p1), .val (.int p2), .val (.int p3), .unset, .unset, .unset, .unset, .unset] [(.ref b1)]))
  refine g_dup X20 hx hby at_88 (pc' := 89) rfl rfl ?_
  refine g_bipush X20 hx hby at_89 (pc' := 91) rfl (z := (14 : Int32)) rfl ?_
  refine g_sipush X20 hx hby at_91 (pc' := 94) rfl (z := (880 : Int32)) rfl ?_
  refine Go.iastore X20 hx hZ e20 V20 (k := 14) rfl (by decide) (hb hby at_94) ?_
  intro T21 h21 X21 e21 W21 V21
  have z22 : n0 ≤ h21.size := (Nat.le_trans (Nat.le_trans (Nat.le_trans (Nat.le_trans z17 (Nat.le_of_eq (Wr.size W18).symm)) (Nat.le_of_eq (Wr.size W19).symm)) (Nat.le_of_eq (Wr.size W20).symm)) (Nat.le_of_eq (Wr.size W21).symm))
  have N21 := (Fr.snoc X21 (Fr.snoc X20 (Fr.snoc X19 (Fr.snoc X18 (Fr.snoc X16 (Fr.snoc X15 (Fr.snoc X14 N13 g2) g2) g2) g2) g2) g2) g2)
  show Go p.tables e below s _ _ _ (T21.setTop (mkF m 95 #[.val (.int p1), .val (.int p2), .val (.int p3), .unset, .unset, .unset, .unset, .unset] [(.ref b1)]))
  refine g_dup X21 hx hby at_95 (pc' := 96) rfl rfl ?_
  refine g_bipush X21 hx hby at_96 (pc' := 98) rfl (z := (15 : Int32)) rfl ?_
  refine g_sipush X21 hx hby at_98 (pc' := 101) rfl (z := (894 : Int32)) rfl ?_
  refine Go.iastore X21 hx hZ e21 V21 (k := 15) rfl (by decide) (hb hby at_101) ?_
  intro T23 h23 X23 e23 W23 V23
  show Go p.tables e below s _ _ _ (T23.setTop (mkF m 102 #[.val (.int p1), .val (.int p2), .val (.int p3), .unset, .unset, .unset, .unset, .unset] [(.ref b1)]))
  refine g_dup X23 hx hby at_102 (pc' := 103) rfl rfl ?_
  refine g_bipush X23 hx hby at_103 (pc' := 105) rfl (z := (16 : Int32)) rfl ?_
  refine g_sipush X23 hx hby at_105 (pc' := 108) rfl (z := (895 : Int32)) rfl ?_
  refine Go.iastore X23 hx hZ e23 V23 (k := 16) rfl (by decide) (hb hby at_108) ?_
  intro T24 h24 X24 e24 W24 V24
  show Go p.tables e below s _ _ _ (T24.setTop (mkF m 109 #[.val (.int p1), .val (.int p2), .val (.int p3), .unset, .unset, .unset, .unset, .unset] [(.ref b1)]))
  refine g_dup X24 hx hby at_109 (pc' := 110) rfl rfl ?_
  refine g_bipush X24 hx hby at_110 (pc' := 112) rfl (z := (17 : Int32)) rfl ?_
  refine g_sipush X24 hx hby at_112 (pc' := 115) rfl (z := (8192 : Int32)) rfl ?_
  refine Go.iastore X24 hx hZ e24 V24 (k := 17) rfl (by decide) (hb hby at_115) ?_
  intro T25 h25 X25 e25 W25 V25
  show Go p.tables e below s _ _ _ (T25.setTop (mkF m 116 #[.val (.int p1), .val (.int p2), .val (.int p3), .unset, .unset, .unset, .unset, .unset] [(.ref b1)]))
  refine g_dup X25 hx hby at_116 (pc' := 117) rfl rfl ?_
  refine g_bipush X25 hx hby at_117 (pc' := 119) rfl (z := (18 : Int32)) rfl ?_
  refine g_sipush X25 hx hby at_119 (pc' := 122) rfl (z := (8204 : Int32)) rfl ?_
  refine Go.iastore X25 hx hZ e25 V25 (k := 18) rfl (by decide) (hb hby at_122) ?_
  intro T26 h26 X26 e26 W26 V26
  have z27 : n0 ≤ h26.size := (Nat.le_trans (Nat.le_trans (Nat.le_trans (Nat.le_trans z22 (Nat.le_of_eq (Wr.size W23).symm)) (Nat.le_of_eq (Wr.size W24).symm)) (Nat.le_of_eq (Wr.size W25).symm)) (Nat.le_of_eq (Wr.size W26).symm))
  show Go p.tables e below s _ _ _ (T26.setTop (mkF m 123 #[.val (.int p1), .val (.int p2), .val (.int p3), .unset, .unset, .unset, .unset, .unset] [(.ref b1)]))
  refine g_dup X26 hx hby at_123 (pc' := 124) rfl rfl ?_
  refine g_bipush X26 hx hby at_124 (pc' := 126) rfl (z := (19 : Int32)) rfl ?_
  refine g_sipush X26 hx hby at_126 (pc' := 129) rfl (z := (8206 : Int32)) rfl ?_
  refine Go.iastore X26 hx hZ e26 V26 (k := 19) rfl (by decide) (hb hby at_129) ?_
  intro T28 h28 X28 e28 W28 V28
  show Go p.tables e below s _ _ _ (T28.setTop (mkF m 130 #[.val (.int p1), .val (.int p2), .val (.int p3), .unset, .unset, .unset, .unset, .unset] [(.ref b1)]))
  refine g_dup X28 hx hby at_130 (pc' := 131) rfl rfl ?_
  refine g_bipush X28 hx hby at_131 (pc' := 133) rfl (z := (20 : Int32)) rfl ?_
  refine g_sipush X28 hx hby at_133 (pc' := 136) rfl (z := (8304 : Int32)) rfl ?_
  refine Go.iastore X28 hx hZ e28 V28 (k := 20) rfl (by decide) (hb hby at_136) ?_
  intro T29 h29 X29 e29 W29 V29
  show Go p.tables e below s _ _ _ (T29.setTop (mkF m 137 #[.val (.int p1), .val (.int p2), .val (.int p3), .unset, .unset, .unset, .unset, .unset] [(.ref b1)]))
  refine g_dup X29 hx hby at_137 (pc' := 138) rfl rfl ?_
  refine g_bipush X29 hx hby at_138 (pc' := 140) rfl (z := (21 : Int32)) rfl ?_
  refine g_sipush X29 hx hby at_140 (pc' := 143) rfl (z := (8592 : Int32)) rfl ?_
  refine Go.iastore X29 hx hZ e29 V29 (k := 21) rfl (by decide) (hb hby at_143) ?_
  intro T30 h30 X30 e30 W30 V30
  have N30 := (Fr.snoc X30 (Fr.snoc X29 (Fr.snoc X28 (Fr.snoc X26 (Fr.snoc X25 (Fr.snoc X24 (Fr.snoc X23 N21 g2) g2) g2) g2) g2) g2) g2)
  show Go p.tables e below s _ _ _ (T30.setTop (mkF m 144 #[.val (.int p1), .val (.int p2), .val (.int p3), .unset, .unset, .unset, .unset, .unset] [(.ref b1)]))
  refine g_dup X30 hx hby at_144 (pc' := 145) rfl rfl ?_
  refine g_bipush X30 hx hby at_145 (pc' := 147) rfl (z := (22 : Int32)) rfl ?_
  refine g_sipush X30 hx hby at_147 (pc' := 150) rfl (z := (11264 : Int32)) rfl ?_
  refine Go.iastore X30 hx hZ e30 V30 (k := 22) rfl (by decide) (hb hby at_150) ?_
  intro T31 h31 X31 e31 W31 V31
  have z32 : n0 ≤ h31.size := (Nat.le_trans (Nat.le_trans (Nat.le_trans (Nat.le_trans z27 (Nat.le_of_eq (Wr.size W28).symm)) (Nat.le_of_eq (Wr.size W29).symm)) (Nat.le_of_eq (Wr.size W30).symm)) (Nat.le_of_eq (Wr.size W31).symm))
  show Go p.tables e below s _ _ _ (T31.setTop (mkF m 151 #[.val (.int p1), .val (.int p2), .val (.int p3), .unset, .unset, .unset, .unset, .unset] [(.ref b1)]))
  refine g_dup X31 hx hby at_151 (pc' := 152) rfl rfl ?_
  refine g_bipush X31 hx hby at_152 (pc' := 154) rfl (z := (23 : Int32)) rfl ?_
  refine g_sipush X31 hx hby at_154 (pc' := 157) rfl (z := (12272 : Int32)) rfl ?_
  refine Go.iastore X31 hx hZ e31 V31 (k := 23) rfl (by decide) (hb hby at_157) ?_
  intro T33 h33 X33 e33 W33 V33
  show Go p.tables e below s _ _ _ (T33.setTop (mkF m 158 #[.val (.int p1), .val (.int p2), .val (.int p3), .unset, .unset, .unset, .unset, .unset] [(.ref b1)]))
  refine g_dup X33 hx hby at_158 (pc' := 159) rfl rfl ?_
  refine g_bipush X33 hx hby at_159 (pc' := 161) rfl (z := (24 : Int32)) rfl ?_
  refine g_sipush X33 hx hby at_161 (pc' := 164) rfl (z := (12289 : Int32)) rfl ?_
  refine Go.iastore X33 hx hZ e33 V33 (k := 24) rfl (by decide) (hb hby at_164) ?_
  intro T34 h34 X34 e34 W34 V34
  show Go p.tables e below s _ _ _ (T34.setTop (mkF m 165 #[.val (.int p1), .val (.int p2), .val (.int p3), .unset, .unset, .unset, .unset, .unset] [(.ref b1)]))
  refine g_dup X34 hx hby at_165 (pc' := 166) rfl rfl ?_
  refine g_bipush X34 hx hby at_166 (pc' := 168) rfl (z := (25 : Int32)) rfl ?_
  refine g_ldcI X34 hx hby hZ hown (wi hw 1 rfl) at_168 (pc' := 170) rfl ?_
  refine Go.iastore X34 hx hZ e34 V34 (k := 25) rfl (by decide) (hb hby at_170) ?_
  intro T35 h35 X35 e35 W35 V35
  show Go p.tables e below s _ _ _ (T35.setTop (mkF m 171 #[.val (.int p1), .val (.int p2), .val (.int p3), .unset, .unset, .unset, .unset, .unset] [(.ref b1)]))
  refine g_dup X35 hx hby at_171 (pc' := 172) rfl rfl ?_
  refine g_bipush X35 hx hby at_172 (pc' := 174) rfl (z := (26 : Int32)) rfl ?_
  refine g_ldcI X35 hx hby hZ hown (wi hw 2 rfl) at_174 (pc' := 176) rfl ?_
  refine Go.iastore X35 hx hZ e35 V35 (k := 26) rfl (by decide) (hb hby at_176) ?_
  intro T36 h36 X36 e36 W36 V36
  have z37 : n0 ≤ h36.size := (Nat.le_trans (Nat.le_trans (Nat.le_trans (Nat.le_trans z32 (Nat.le_of_eq (Wr.size W33).symm)) (Nat.le_of_eq (Wr.size W34).symm)) (Nat.le_of_eq (Wr.size W35).symm)) (Nat.le_of_eq (Wr.size W36).symm))
  show Go p.tables e below s _ _ _ (T36.setTop (mkF m 177 #[.val (.int p1), .val (.int p2), .val (.int p3), .unset, .unset, .unset, .unset, .unset] [(.ref b1)]))
  refine g_dup X36 hx hby at_177 (pc' := 178) rfl rfl ?_
  refine g_bipush X36 hx hby at_178 (pc' := 180) rfl (z := (27 : Int32)) rfl ?_
  refine g_ldcI X36 hx hby hZ hown (wi hw 3 rfl) at_180 (pc' := 182) rfl ?_
  refine Go.iastore X36 hx hZ e36 V36 (k := 27) rfl (by decide) (hb hby at_182) ?_
  intro T38 h38 X38 e38 W38 V38
  show Go p.tables e below s _ _ _ (T38.setTop (mkF m 183 #[.val (.int p1), .val (.int p2), .val (.int p3), .unset, .unset, .unset, .unset, .unset] [(.ref b1)]))
  refine g_dup X38 hx hby at_183 (pc' := 184) rfl rfl ?_
  refine g_bipush X38 hx hby at_184 (pc' := 186) rfl (z := (28 : Int32)) rfl ?_
  refine g_ldcI X38 hx hby hZ hown (wi hw 4 rfl) at_186 (pc' := 188) rfl ?_
  refine Go.iastore X38 hx hZ e38 V38 (k := 28) rfl (by decide) (hb hby at_188) ?_
  intro T39 h39 X39 e39 W39 V39
  have N39 := (Fr.snoc X39 (Fr.snoc X38 (Fr.snoc X36 (Fr.snoc X35 (Fr.snoc X34 (Fr.snoc X33 (Fr.snoc X31 N30 g2) g2) g2) g2) g2) g2) g2)
  show Go p.tables e below s _ _ _ (T39.setTop (mkF m 189 #[.val (.int p1), .val (.int p2), .val (.int p3), .unset, .unset, .unset, .unset, .unset] [(.ref b1)]))
  refine g_dup X39 hx hby at_189 (pc' := 190) rfl rfl ?_
  refine g_bipush X39 hx hby at_190 (pc' := 192) rfl (z := (29 : Int32)) rfl ?_
  refine g_ldcI X39 hx hby hZ hown (wi hw 5 rfl) at_192 (pc' := 194) rfl ?_
  refine Go.iastore X39 hx hZ e39 V39 (k := 29) rfl (by decide) (hb hby at_194) ?_
  intro T40 h40 X40 e40 W40 V40
  show Go p.tables e below s _ _ _ (T40.setTop (mkF m 195 #[.val (.int p1), .val (.int p2), .val (.int p3), .unset, .unset, .unset, .unset, .unset] [(.ref b1)]))
  refine g_dup X40 hx hby at_195 (pc' := 196) rfl rfl ?_
  refine g_bipush X40 hx hby at_196 (pc' := 198) rfl (z := (30 : Int32)) rfl ?_
  refine g_ldcI X40 hx hby hZ hown (wi hw 6 rfl) at_198 (pc' := 200) rfl ?_
  refine Go.iastore X40 hx hZ e40 V40 (k := 30) rfl (by decide) (hb hby at_200) ?_
  intro T41 h41 X41 e41 W41 V41
  have z42 : n0 ≤ h41.size := (Nat.le_trans (Nat.le_trans (Nat.le_trans (Nat.le_trans z37 (Nat.le_of_eq (Wr.size W38).symm)) (Nat.le_of_eq (Wr.size W39).symm)) (Nat.le_of_eq (Wr.size W40).symm)) (Nat.le_of_eq (Wr.size W41).symm))
  show Go p.tables e below s _ _ _ (T41.setTop (mkF m 201 #[.val (.int p1), .val (.int p2), .val (.int p3), .unset, .unset, .unset, .unset, .unset] [(.ref b1)]))
  refine g_dup X41 hx hby at_201 (pc' := 202) rfl rfl ?_
  refine g_bipush X41 hx hby at_202 (pc' := 204) rfl (z := (31 : Int32)) rfl ?_
  refine g_ldcI X41 hx hby hZ hown (wi hw 7 rfl) at_204 (pc' := 206) rfl ?_
  refine Go.iastore X41 hx hZ e41 V41 (k := 31) rfl (by decide) (hb hby at_206) ?_
  intro T43 h43 X43 e43 W43 V43
  show Go p.tables e below s _ _ _ (T43.setTop (mkF m 207 #[.val (.int p1), .val (.int p2), .val (.int p3), .unset, .unset, .unset, .unset, .unset] [(.ref b1)]))
  refine g_astoreN X43 hx hby at_207 (pc' := 208) rfl rfl (L' := #[.val (.int p1), .val (.int p2), .val (.int p3), .val (.ref b1), .unset, .unset, .unset, .unset]) rfl ?_
  have VB := V43.congr (g := fun i => .int (own_b i)) (fun i hi => congrArg Value.int (own_same i hi))
  refine Go.join (α := Int32 × Int32) (P := fun x => (fun (md : Int32) (cc : Int32) => True) x.1 x.2) (F := fun x => (fun (md : Int32) (cc : Int32) => T43.setTop (mkF m 254 #[.val (.int p1), .val (.int p2), .val (.int p3), .val (.ref b1), .val (.int md), .val (.int cc), .unset, .unset] [])) x.1 x.2) ?_ ?_
  · rintro ⟨md, cc⟩ hJ254
    show Go p.tables e below s _ _ _ (T43.setTop (mkF m 254 #[.val (.int p1), .val (.int p2), .val (.int p3), .val (.ref b1), .val (.int md), .val (.int cc), .unset, .unset] []))
    replace hJ254 : True := hJ254
    refine Go.join (α := Int32 × Slot) (P := fun x => (fun (rr : Int32) (sl : Slot) => own_ns cc = rr) x.1 x.2) (F := fun x => (fun (rr : Int32) (sl : Slot) => T43.setTop (mkF m 357 #[.val (.int p1), .val (.int p2), .val (.int p3), .val (.ref b1), .val (.int md), .val (.int cc), .val (.int rr), sl] [])) x.1 x.2) ?_ ?_
    · rintro ⟨rr, sl⟩ hJ357
      show Go p.tables e below s _ _ _ (T43.setTop (mkF m 357 #[.val (.int p1), .val (.int p2), .val (.int p3), .val (.ref b1), .val (.int md), .val (.int cc), .val (.int rr), sl] []))
      replace hJ357 : own_ns cc = rr := hJ357
      refine g_iload X43 hx hby at_357 (pc' := 359) rfl rfl ?_
      refine Go.callS X43 hx hZ (y := (⟨"com/example/validated_xml_store/validatedxmlstore/XmlNames", "isNameStartChar", "(I)Z"⟩ : MethodName)) hown (wi hw 9 rfl) (wi hw 10 rfl) (wi hw 11 rfl) (wi hw 12 rfl) (by decide) e43 (argsL := [(.int cc)]) (rest := []) (W := 0) (rm1 l Z a0 hw cc h43 n0 (Nat.le_trans z42 (Nat.le_of_eq (Wr.size W43).symm))) (hb hby at_359) (by rw [hml]; rfl) rfl pd_aIzZ rfl rfl (by decide) (by decide) (by decide) (by decide) ?_
      intro v44 T44 L44 X44 hQ44
      obtain ⟨rfl, Nq44, hh44⟩ := hQ44
      have N44 := Fr.app (Fr.snoc X43 (Fr.snoc X41 (Fr.snoc X40 N39 g2) g2) g2) Nq44
      show Go p.tables e below s _ _ _ (T44.setTop (mkF m 362 #[.val (.int p1), .val (.int p2), .val (.int p3), .val (.ref b1), .val (.int md), .val (.int cc), .val (.int rr), sl] [(.int (own_ns cc))]))
      rw [hJ357]
      show Go p.tables e below s _ _ _ (T44.setTop (mkF m 362 #[.val (.int p1), .val (.int p2), .val (.int p3), .val (.ref b1), .val (.int md), .val (.int cc), .val (.int rr), sl] [(.int rr)]))
      refine g_iload X44 hx hby at_362 (pc' := 364) rfl rfl ?_
      have hc364 : rr.toInt = rr.toInt := rfl
      refine g_icmpNo X44 hx hby at_364 (pc' := 367) (teq (show rr = rr from Int32.toInt_inj.mp hc364)).2 rfl ?_
      refine g_iconst X44 hx hby at_367 (pc' := 368) rfl (z := (1 : Int32)) rfl ?_
      refine g_goto X44 hx hby at_368 (pc' := 372) (by decide) (by decide) ?_
      refine Go.retZ X44 hx hlk hret (by simp) (hb hby at_372) (by decide) (by decide) ?_
      exact ⟨rfl, N44⟩
    intro J357
    refine g_iload X43 hx hby at_254 (pc' := 256) rfl rfl ?_
    refine g_aloadN X43 hx hby at_256 (pc' := 257) rfl rfl rfl ?_
    refine g_bipush X43 hx hby at_257 (pc' := 259) rfl (z := (31 : Int32)) rfl ?_
    refine Go.iaload X43 hx hZ e43 VB (k := 31) rfl (by decide) (hb hby at_259) ?_
    show Go p.tables e below s _ _ _ (T43.setTop (mkF m 260 #[.val (.int p1), .val (.int p2), .val (.int p3), .val (.ref b1), .val (.int md), .val (.int cc), .unset, .unset] [(.int (983040 : Int32)), (.int cc)]))
    by_cases hc260 : cc.toInt < (983040 : Int)
    · refine g_icmpYes X43 hx hby at_260 (pc' := 269) (tlt (show cc < (983040 : Int32) from Int32.lt_iff_toInt_lt.mpr hc260)).1 (by decide) (by decide) ?_
      refine g_iconst X43 hx hby at_269 (pc' := 270) rfl (z := (0 : Int32)) rfl ?_
      refine g_istore X43 hx hby at_270 (pc' := 272) rfl (L' := #[.val (.int p1), .val (.int p2), .val (.int p3), .val (.ref b1), .val (.int md), .val (.int cc), .unset, .val (.int (0 : Int32))]) rfl ?_
      refine g_aloadN X43 hx hby at_272 (pc' := 273) rfl rfl rfl ?_
      refine g_iload X43 hx hby at_273 (pc' := 275) rfl rfl ?_
      refine g_bipush X43 hx hby at_275 (pc' := 277) rfl (z := (15 : Int32)) rfl ?_
      refine g_iadd X43 hx hby at_277 (pc' := 278) rfl (z := (15 : Int32)) rfl ?_
      refine Go.iaload X43 hx hZ e43 VB (k := 15) rfl (by decide) (hb hby at_278) ?_
      show Go p.tables e below s _ _ _ (T43.setTop (mkF m 279 #[.val (.int p1), .val (.int p2), .val (.int p3), .val (.ref b1), .val (.int md), .val (.int cc), .unset, .val (.int (0 : Int32))] [(.int (894 : Int32))]))
      refine g_iload X43 hx hby at_279 (pc' := 281) rfl rfl ?_
      by_cases hc281 : cc.toInt < (894 : Int)
      · refine g_icmpYes X43 hx hby at_281 (pc' := 287) (tlt (show cc < (894 : Int32) from Int32.lt_iff_toInt_lt.mpr hc281)).2.2.1 (by decide) (by decide) ?_
        refine g_aloadN X43 hx hby at_287 (pc' := 288) rfl rfl rfl ?_
        refine g_iload X43 hx hby at_288 (pc' := 290) rfl rfl ?_
        refine g_bipush X43 hx hby at_290 (pc' := 292) rfl (z := (7 : Int32)) rfl ?_
        refine g_iadd X43 hx hby at_292 (pc' := 293) rfl (z := (7 : Int32)) rfl ?_
        refine Go.iaload X43 hx hZ e43 VB (k := 7) rfl (by decide) (hb hby at_293) ?_
        show Go p.tables e below s _ _ _ (T43.setTop (mkF m 294 #[.val (.int p1), .val (.int p2), .val (.int p3), .val (.ref b1), .val (.int md), .val (.int cc), .unset, .val (.int (0 : Int32))] [(.int (123 : Int32))]))
        refine g_iload X43 hx hby at_294 (pc' := 296) rfl rfl ?_
        by_cases hc296 : cc.toInt < (123 : Int)
        · refine g_icmpYes X43 hx hby at_296 (pc' := 302) (tlt (show cc < (123 : Int32) from Int32.lt_iff_toInt_lt.mpr hc296)).2.2.1 (by decide) (by decide) ?_
          refine g_aloadN X43 hx hby at_302 (pc' := 303) rfl rfl rfl ?_
          refine g_iload X43 hx hby at_303 (pc' := 305) rfl rfl ?_
          refine g_iconst X43 hx hby at_305 (pc' := 306) rfl (z := (3 : Int32)) rfl ?_
          refine g_iadd X43 hx hby at_306 (pc' := 307) rfl (z := (3 : Int32)) rfl ?_
          refine Go.iaload X43 hx hZ e43 VB (k := 3) rfl (by decide) (hb hby at_307) ?_
          show Go p.tables e below s _ _ _ (T43.setTop (mkF m 308 #[.val (.int p1), .val (.int p2), .val (.int p3), .val (.ref b1), .val (.int md), .val (.int cc), .unset, .val (.int (0 : Int32))] [(.int (91 : Int32))]))
          refine g_iload X43 hx hby at_308 (pc' := 310) rfl rfl ?_
          by_cases hc310 : cc.toInt < (91 : Int)
          · refine g_icmpYes X43 hx hby at_310 (pc' := 316) (tlt (show cc < (91 : Int32) from Int32.lt_iff_toInt_lt.mpr hc310)).2.2.1 (by decide) (by decide) ?_
            refine g_aloadN X43 hx hby at_316 (pc' := 317) rfl rfl rfl ?_
            refine g_iload X43 hx hby at_317 (pc' := 319) rfl rfl ?_
            refine g_iconst X43 hx hby at_319 (pc' := 320) rfl (z := (1 : Int32)) rfl ?_
            refine g_iadd X43 hx hby at_320 (pc' := 321) rfl (z := (1 : Int32)) rfl ?_
            refine Go.iaload X43 hx hZ e43 VB (k := 1) rfl (by decide) (hb hby at_321) ?_
            show Go p.tables e below s _ _ _ (T43.setTop (mkF m 322 #[.val (.int p1), .val (.int p2), .val (.int p3), .val (.ref b1), .val (.int md), .val (.int cc), .unset, .val (.int (0 : Int32))] [(.int (59 : Int32))]))
            refine g_iload X43 hx hby at_322 (pc' := 324) rfl rfl ?_
            by_cases hc324 : cc.toInt < (59 : Int)
            · refine g_icmpYes X43 hx hby at_324 (pc' := 330) (tlt (show cc < (59 : Int32) from Int32.lt_iff_toInt_lt.mpr hc324)).2.2.1 (by decide) (by decide) ?_
              refine g_aloadN X43 hx hby at_330 (pc' := 331) rfl rfl rfl ?_
              refine g_iload X43 hx hby at_331 (pc' := 333) rfl rfl ?_
              refine Go.iaload X43 hx hZ e43 VB (k := 0) rfl (by decide) (hb hby at_333) ?_
              show Go p.tables e below s _ _ _ (T43.setTop (mkF m 334 #[.val (.int p1), .val (.int p2), .val (.int p3), .val (.ref b1), .val (.int md), .val (.int cc), .unset, .val (.int (0 : Int32))] [(.int (58 : Int32))]))
              refine g_iload X43 hx hby at_334 (pc' := 336) rfl rfl ?_
              by_cases hc336 : cc.toInt < (58 : Int)
              · refine g_icmpYes X43 hx hby at_336 (pc' := 342) (tlt (show cc < (58 : Int32) from Int32.lt_iff_toInt_lt.mpr hc336)).2.2.1 (by decide) (by decide) ?_
                refine g_iload X43 hx hby at_342 (pc' := 344) rfl rfl ?_
                refine g_iconst X43 hx hby at_344 (pc' := 345) rfl (z := (1 : Int32)) rfl ?_
                refine g_iand X43 hx hby at_345 (pc' := 346) rfl (z := (0 : Int32)) rfl ?_
                refine g_iconst X43 hx hby at_346 (pc' := 347) rfl (z := (1 : Int32)) rfl ?_
                have hc347 : ¬ ((0 : Int) = (1 : Int)) := by decide
                refine g_icmpYes X43 hx hby at_347 (pc' := 354) (feq (show ¬ ((0 : Int32) = (1 : Int32)) from fun q => hc347 (congrArg Int32.toInt q))).2 (by decide) (by decide) ?_
                refine g_iconst X43 hx hby at_354 (pc' := 355) rfl (z := (0 : Int32)) rfl ?_
                refine g_istore X43 hx hby at_355 (pc' := 357) rfl (L' := #[.val (.int p1), .val (.int p2), .val (.int p3), .val (.ref b1), .val (.int md), .val (.int cc), .val (.int (0 : Int32)), .val (.int (0 : Int32))]) rfl ?_
                exact J357 ((0 : Int32), .val (.int (0 : Int32))) (by unfold own_ns; first | (rw [if_pos (by omega)]) | (rw [if_neg (by omega)]))
              · refine g_icmpNo X43 hx hby at_336 (pc' := 339) (flt (show ¬ (cc < (58 : Int32)) from fun q => hc336 (Int32.lt_iff_toInt_lt.mp q))).2.2.1 rfl ?_
                refine g_iinc X43 hx hby at_339 (pc' := 342) rfl rfl (L' := #[.val (.int p1), .val (.int p2), .val (.int p3), .val (.ref b1), .val (.int md), .val (.int cc), .unset, .val (.int (1 : Int32))]) rfl ?_
                refine g_iload X43 hx hby at_342 (pc' := 344) rfl rfl ?_
                refine g_iconst X43 hx hby at_344 (pc' := 345) rfl (z := (1 : Int32)) rfl ?_
                refine g_iand X43 hx hby at_345 (pc' := 346) rfl (z := (1 : Int32)) rfl ?_
                refine g_iconst X43 hx hby at_346 (pc' := 347) rfl (z := (1 : Int32)) rfl ?_
                have hc347 : (1 : Int) = (1 : Int) := by decide
                refine g_icmpNo X43 hx hby at_347 (pc' := 350) (teq (show (1 : Int32) = (1 : Int32) from Int32.toInt_inj.mp hc347)).2 rfl ?_
                refine g_iconst X43 hx hby at_350 (pc' := 351) rfl (z := (1 : Int32)) rfl ?_
                refine g_goto X43 hx hby at_351 (pc' := 355) (by decide) (by decide) ?_
                refine g_istore X43 hx hby at_355 (pc' := 357) rfl (L' := #[.val (.int p1), .val (.int p2), .val (.int p3), .val (.ref b1), .val (.int md), .val (.int cc), .val (.int (1 : Int32)), .val (.int (1 : Int32))]) rfl ?_
                exact J357 ((1 : Int32), .val (.int (1 : Int32))) (by unfold own_ns; first | (rw [if_pos (by omega)]) | (rw [if_neg (by omega)]))
            · refine g_icmpNo X43 hx hby at_324 (pc' := 327) (flt (show ¬ (cc < (59 : Int32)) from fun q => hc324 (Int32.lt_iff_toInt_lt.mp q))).2.2.1 rfl ?_
              refine g_iinc X43 hx hby at_327 (pc' := 330) rfl rfl (L' := #[.val (.int p1), .val (.int p2), .val (.int p3), .val (.ref b1), .val (.int md), .val (.int cc), .unset, .val (.int (2 : Int32))]) rfl ?_
              refine g_aloadN X43 hx hby at_330 (pc' := 331) rfl rfl rfl ?_
              refine g_iload X43 hx hby at_331 (pc' := 333) rfl rfl ?_
              refine Go.iaload X43 hx hZ e43 VB (k := 2) rfl (by decide) (hb hby at_333) ?_
              show Go p.tables e below s _ _ _ (T43.setTop (mkF m 334 #[.val (.int p1), .val (.int p2), .val (.int p3), .val (.ref b1), .val (.int md), .val (.int cc), .unset, .val (.int (2 : Int32))] [(.int (65 : Int32))]))
              refine g_iload X43 hx hby at_334 (pc' := 336) rfl rfl ?_
              by_cases hc336 : cc.toInt < (65 : Int)
              · refine g_icmpYes X43 hx hby at_336 (pc' := 342) (tlt (show cc < (65 : Int32) from Int32.lt_iff_toInt_lt.mpr hc336)).2.2.1 (by decide) (by decide) ?_
                refine g_iload X43 hx hby at_342 (pc' := 344) rfl rfl ?_
                refine g_iconst X43 hx hby at_344 (pc' := 345) rfl (z := (1 : Int32)) rfl ?_
                refine g_iand X43 hx hby at_345 (pc' := 346) rfl (z := (0 : Int32)) rfl ?_
                refine g_iconst X43 hx hby at_346 (pc' := 347) rfl (z := (1 : Int32)) rfl ?_
                have hc347 : ¬ ((0 : Int) = (1 : Int)) := by decide
                refine g_icmpYes X43 hx hby at_347 (pc' := 354) (feq (show ¬ ((0 : Int32) = (1 : Int32)) from fun q => hc347 (congrArg Int32.toInt q))).2 (by decide) (by decide) ?_
                refine g_iconst X43 hx hby at_354 (pc' := 355) rfl (z := (0 : Int32)) rfl ?_
                refine g_istore X43 hx hby at_355 (pc' := 357) rfl (L' := #[.val (.int p1), .val (.int p2), .val (.int p3), .val (.ref b1), .val (.int md), .val (.int cc), .val (.int (0 : Int32)), .val (.int (2 : Int32))]) rfl ?_
                exact J357 ((0 : Int32), .val (.int (2 : Int32))) (by unfold own_ns; first | (rw [if_pos (by omega)]) | (rw [if_neg (by omega)]))
              · refine g_icmpNo X43 hx hby at_336 (pc' := 339) (flt (show ¬ (cc < (65 : Int32)) from fun q => hc336 (Int32.lt_iff_toInt_lt.mp q))).2.2.1 rfl ?_
                refine g_iinc X43 hx hby at_339 (pc' := 342) rfl rfl (L' := #[.val (.int p1), .val (.int p2), .val (.int p3), .val (.ref b1), .val (.int md), .val (.int cc), .unset, .val (.int (3 : Int32))]) rfl ?_
                refine g_iload X43 hx hby at_342 (pc' := 344) rfl rfl ?_
                refine g_iconst X43 hx hby at_344 (pc' := 345) rfl (z := (1 : Int32)) rfl ?_
                refine g_iand X43 hx hby at_345 (pc' := 346) rfl (z := (1 : Int32)) rfl ?_
                refine g_iconst X43 hx hby at_346 (pc' := 347) rfl (z := (1 : Int32)) rfl ?_
                have hc347 : (1 : Int) = (1 : Int) := by decide
                refine g_icmpNo X43 hx hby at_347 (pc' := 350) (teq (show (1 : Int32) = (1 : Int32) from Int32.toInt_inj.mp hc347)).2 rfl ?_
                refine g_iconst X43 hx hby at_350 (pc' := 351) rfl (z := (1 : Int32)) rfl ?_
                refine g_goto X43 hx hby at_351 (pc' := 355) (by decide) (by decide) ?_
                refine g_istore X43 hx hby at_355 (pc' := 357) rfl (L' := #[.val (.int p1), .val (.int p2), .val (.int p3), .val (.ref b1), .val (.int md), .val (.int cc), .val (.int (1 : Int32)), .val (.int (3 : Int32))]) rfl ?_
                exact J357 ((1 : Int32), .val (.int (3 : Int32))) (by unfold own_ns; first | (rw [if_pos (by omega)]) | (rw [if_neg (by omega)]))
          · refine g_icmpNo X43 hx hby at_310 (pc' := 313) (flt (show ¬ (cc < (91 : Int32)) from fun q => hc310 (Int32.lt_iff_toInt_lt.mp q))).2.2.1 rfl ?_
            refine g_iinc X43 hx hby at_313 (pc' := 316) rfl rfl (L' := #[.val (.int p1), .val (.int p2), .val (.int p3), .val (.ref b1), .val (.int md), .val (.int cc), .unset, .val (.int (4 : Int32))]) rfl ?_
            refine g_aloadN X43 hx hby at_316 (pc' := 317) rfl rfl rfl ?_
            refine g_iload X43 hx hby at_317 (pc' := 319) rfl rfl ?_
            refine g_iconst X43 hx hby at_319 (pc' := 320) rfl (z := (1 : Int32)) rfl ?_
            refine g_iadd X43 hx hby at_320 (pc' := 321) rfl (z := (5 : Int32)) rfl ?_
            refine Go.iaload X43 hx hZ e43 VB (k := 5) rfl (by decide) (hb hby at_321) ?_
            show Go p.tables e below s _ _ _ (T43.setTop (mkF m 322 #[.val (.int p1), .val (.int p2), .val (.int p3), .val (.ref b1), .val (.int md), .val (.int cc), .unset, .val (.int (4 : Int32))] [(.int (96 : Int32))]))
            refine g_iload X43 hx hby at_322 (pc' := 324) rfl rfl ?_
            by_cases hc324 : cc.toInt < (96 : Int)
            · refine g_icmpYes X43 hx hby at_324 (pc' := 330) (tlt (show cc < (96 : Int32) from Int32.lt_iff_toInt_lt.mpr hc324)).2.2.1 (by decide) (by decide) ?_
              refine g_aloadN X43 hx hby at_330 (pc' := 331) rfl rfl rfl ?_
              refine g_iload X43 hx hby at_331 (pc' := 333) rfl rfl ?_
              refine Go.iaload X43 hx hZ e43 VB (k := 4) rfl (by decide) (hb hby at_333) ?_
              show Go p.tables e below s _ _ _ (T43.setTop (mkF m 334 #[.val (.int p1), .val (.int p2), .val (.int p3), .val (.ref b1), .val (.int md), .val (.int cc), .unset, .val (.int (4 : Int32))] [(.int (95 : Int32))]))
              refine g_iload X43 hx hby at_334 (pc' := 336) rfl rfl ?_
              by_cases hc336 : cc.toInt < (95 : Int)
              · refine g_icmpYes X43 hx hby at_336 (pc' := 342) (tlt (show cc < (95 : Int32) from Int32.lt_iff_toInt_lt.mpr hc336)).2.2.1 (by decide) (by decide) ?_
                refine g_iload X43 hx hby at_342 (pc' := 344) rfl rfl ?_
                refine g_iconst X43 hx hby at_344 (pc' := 345) rfl (z := (1 : Int32)) rfl ?_
                refine g_iand X43 hx hby at_345 (pc' := 346) rfl (z := (0 : Int32)) rfl ?_
                refine g_iconst X43 hx hby at_346 (pc' := 347) rfl (z := (1 : Int32)) rfl ?_
                have hc347 : ¬ ((0 : Int) = (1 : Int)) := by decide
                refine g_icmpYes X43 hx hby at_347 (pc' := 354) (feq (show ¬ ((0 : Int32) = (1 : Int32)) from fun q => hc347 (congrArg Int32.toInt q))).2 (by decide) (by decide) ?_
                refine g_iconst X43 hx hby at_354 (pc' := 355) rfl (z := (0 : Int32)) rfl ?_
                refine g_istore X43 hx hby at_355 (pc' := 357) rfl (L' := #[.val (.int p1), .val (.int p2), .val (.int p3), .val (.ref b1), .val (.int md), .val (.int cc), .val (.int (0 : Int32)), .val (.int (4 : Int32))]) rfl ?_
                exact J357 ((0 : Int32), .val (.int (4 : Int32))) (by unfold own_ns; first | (rw [if_pos (by omega)]) | (rw [if_neg (by omega)]))
              · refine g_icmpNo X43 hx hby at_336 (pc' := 339) (flt (show ¬ (cc < (95 : Int32)) from fun q => hc336 (Int32.lt_iff_toInt_lt.mp q))).2.2.1 rfl ?_
                refine g_iinc X43 hx hby at_339 (pc' := 342) rfl rfl (L' := #[.val (.int p1), .val (.int p2), .val (.int p3), .val (.ref b1), .val (.int md), .val (.int cc), .unset, .val (.int (5 : Int32))]) rfl ?_
                refine g_iload X43 hx hby at_342 (pc' := 344) rfl rfl ?_
                refine g_iconst X43 hx hby at_344 (pc' := 345) rfl (z := (1 : Int32)) rfl ?_
                refine g_iand X43 hx hby at_345 (pc' := 346) rfl (z := (1 : Int32)) rfl ?_
                refine g_iconst X43 hx hby at_346 (pc' := 347) rfl (z := (1 : Int32)) rfl ?_
                have hc347 : (1 : Int) = (1 : Int) := by decide
                refine g_icmpNo X43 hx hby at_347 (pc' := 350) (teq (show (1 : Int32) = (1 : Int32) from Int32.toInt_inj.mp hc347)).2 rfl ?_
                refine g_iconst X43 hx hby at_350 (pc' := 351) rfl (z := (1 : Int32)) rfl ?_
                refine g_goto X43 hx hby at_351 (pc' := 355) (by decide) (by decide) ?_
                refine g_istore X43 hx hby at_355 (pc' := 357) rfl (L' := #[.val (.int p1), .val (.int p2), .val (.int p3), .val (.ref b1), .val (.int md), .val (.int cc), .val (.int (1 : Int32)), .val (.int (5 : Int32))]) rfl ?_
                exact J357 ((1 : Int32), .val (.int (5 : Int32))) (by unfold own_ns; first | (rw [if_pos (by omega)]) | (rw [if_neg (by omega)]))
            · refine g_icmpNo X43 hx hby at_324 (pc' := 327) (flt (show ¬ (cc < (96 : Int32)) from fun q => hc324 (Int32.lt_iff_toInt_lt.mp q))).2.2.1 rfl ?_
              refine g_iinc X43 hx hby at_327 (pc' := 330) rfl rfl (L' := #[.val (.int p1), .val (.int p2), .val (.int p3), .val (.ref b1), .val (.int md), .val (.int cc), .unset, .val (.int (6 : Int32))]) rfl ?_
              refine g_aloadN X43 hx hby at_330 (pc' := 331) rfl rfl rfl ?_
              refine g_iload X43 hx hby at_331 (pc' := 333) rfl rfl ?_
              refine Go.iaload X43 hx hZ e43 VB (k := 6) rfl (by decide) (hb hby at_333) ?_
              show Go p.tables e below s _ _ _ (T43.setTop (mkF m 334 #[.val (.int p1), .val (.int p2), .val (.int p3), .val (.ref b1), .val (.int md), .val (.int cc), .unset, .val (.int (6 : Int32))] [(.int (97 : Int32))]))
              refine g_iload X43 hx hby at_334 (pc' := 336) rfl rfl ?_
              by_cases hc336 : cc.toInt < (97 : Int)
              · refine g_icmpYes X43 hx hby at_336 (pc' := 342) (tlt (show cc < (97 : Int32) from Int32.lt_iff_toInt_lt.mpr hc336)).2.2.1 (by decide) (by decide) ?_
                refine g_iload X43 hx hby at_342 (pc' := 344) rfl rfl ?_
                refine g_iconst X43 hx hby at_344 (pc' := 345) rfl (z := (1 : Int32)) rfl ?_
                refine g_iand X43 hx hby at_345 (pc' := 346) rfl (z := (0 : Int32)) rfl ?_
                refine g_iconst X43 hx hby at_346 (pc' := 347) rfl (z := (1 : Int32)) rfl ?_
                have hc347 : ¬ ((0 : Int) = (1 : Int)) := by decide
                refine g_icmpYes X43 hx hby at_347 (pc' := 354) (feq (show ¬ ((0 : Int32) = (1 : Int32)) from fun q => hc347 (congrArg Int32.toInt q))).2 (by decide) (by decide) ?_
                refine g_iconst X43 hx hby at_354 (pc' := 355) rfl (z := (0 : Int32)) rfl ?_
                refine g_istore X43 hx hby at_355 (pc' := 357) rfl (L' := #[.val (.int p1), .val (.int p2), .val (.int p3), .val (.ref b1), .val (.int md), .val (.int cc), .val (.int (0 : Int32)), .val (.int (6 : Int32))]) rfl ?_
                exact J357 ((0 : Int32), .val (.int (6 : Int32))) (by unfold own_ns; first | (rw [if_pos (by omega)]) | (rw [if_neg (by omega)]))
              · refine g_icmpNo X43 hx hby at_336 (pc' := 339) (flt (show ¬ (cc < (97 : Int32)) from fun q => hc336 (Int32.lt_iff_toInt_lt.mp q))).2.2.1 rfl ?_
                refine g_iinc X43 hx hby at_339 (pc' := 342) rfl rfl (L' := #[.val (.int p1), .val (.int p2), .val (.int p3), .val (.ref b1), .val (.int md), .val (.int cc), .unset, .val (.int (7 : Int32))]) rfl ?_
                refine g_iload X43 hx hby at_342 (pc' := 344) rfl rfl ?_
                refine g_iconst X43 hx hby at_344 (pc' := 345) rfl (z := (1 : Int32)) rfl ?_
                refine g_iand X43 hx hby at_345 (pc' := 346) rfl (z := (1 : Int32)) rfl ?_
                refine g_iconst X43 hx hby at_346 (pc' := 347) rfl (z := (1 : Int32)) rfl ?_
                have hc347 : (1 : Int) = (1 : Int) := by decide
                refine g_icmpNo X43 hx hby at_347 (pc' := 350) (teq (show (1 : Int32) = (1 : Int32) from Int32.toInt_inj.mp hc347)).2 rfl ?_
                refine g_iconst X43 hx hby at_350 (pc' := 351) rfl (z := (1 : Int32)) rfl ?_
                refine g_goto X43 hx hby at_351 (pc' := 355) (by decide) (by decide) ?_
                refine g_istore X43 hx hby at_355 (pc' := 357) rfl (L' := #[.val (.int p1), .val (.int p2), .val (.int p3), .val (.ref b1), .val (.int md), .val (.int cc), .val (.int (1 : Int32)), .val (.int (7 : Int32))]) rfl ?_
                exact J357 ((1 : Int32), .val (.int (7 : Int32))) (by unfold own_ns; first | (rw [if_pos (by omega)]) | (rw [if_neg (by omega)]))
        · refine g_icmpNo X43 hx hby at_296 (pc' := 299) (flt (show ¬ (cc < (123 : Int32)) from fun q => hc296 (Int32.lt_iff_toInt_lt.mp q))).2.2.1 rfl ?_
          refine g_iinc X43 hx hby at_299 (pc' := 302) rfl rfl (L' := #[.val (.int p1), .val (.int p2), .val (.int p3), .val (.ref b1), .val (.int md), .val (.int cc), .unset, .val (.int (8 : Int32))]) rfl ?_
          refine g_aloadN X43 hx hby at_302 (pc' := 303) rfl rfl rfl ?_
          refine g_iload X43 hx hby at_303 (pc' := 305) rfl rfl ?_
          refine g_iconst X43 hx hby at_305 (pc' := 306) rfl (z := (3 : Int32)) rfl ?_
          refine g_iadd X43 hx hby at_306 (pc' := 307) rfl (z := (11 : Int32)) rfl ?_
          refine Go.iaload X43 hx hZ e43 VB (k := 11) rfl (by decide) (hb hby at_307) ?_
          show Go p.tables e below s _ _ _ (T43.setTop (mkF m 308 #[.val (.int p1), .val (.int p2), .val (.int p3), .val (.ref b1), .val (.int md), .val (.int cc), .unset, .val (.int (8 : Int32))] [(.int (247 : Int32))]))
          refine g_iload X43 hx hby at_308 (pc' := 310) rfl rfl ?_
          by_cases hc310 : cc.toInt < (247 : Int)
          · refine g_icmpYes X43 hx hby at_310 (pc' := 316) (tlt (show cc < (247 : Int32) from Int32.lt_iff_toInt_lt.mpr hc310)).2.2.1 (by decide) (by decide) ?_
            refine g_aloadN X43 hx hby at_316 (pc' := 317) rfl rfl rfl ?_
            refine g_iload X43 hx hby at_317 (pc' := 319) rfl rfl ?_
            refine g_iconst X43 hx hby at_319 (pc' := 320) rfl (z := (1 : Int32)) rfl ?_
            refine g_iadd X43 hx hby at_320 (pc' := 321) rfl (z := (9 : Int32)) rfl ?_
            refine Go.iaload X43 hx hZ e43 VB (k := 9) rfl (by decide) (hb hby at_321) ?_
            show Go p.tables e below s _ _ _ (T43.setTop (mkF m 322 #[.val (.int p1), .val (.int p2), .val (.int p3), .val (.ref b1), .val (.int md), .val (.int cc), .unset, .val (.int (8 : Int32))] [(.int (215 : Int32))]))
            refine g_iload X43 hx hby at_322 (pc' := 324) rfl rfl ?_
            by_cases hc324 : cc.toInt < (215 : Int)
            · refine g_icmpYes X43 hx hby at_324 (pc' := 330) (tlt (show cc < (215 : Int32) from Int32.lt_iff_toInt_lt.mpr hc324)).2.2.1 (by decide) (by decide) ?_
              refine g_aloadN X43 hx hby at_330 (pc' := 331) rfl rfl rfl ?_
              refine g_iload X43 hx hby at_331 (pc' := 333) rfl rfl ?_
              refine Go.iaload X43 hx hZ e43 VB (k := 8) rfl (by decide) (hb hby at_333) ?_
              show Go p.tables e below s _ _ _ (T43.setTop (mkF m 334 #[.val (.int p1), .val (.int p2), .val (.int p3), .val (.ref b1), .val (.int md), .val (.int cc), .unset, .val (.int (8 : Int32))] [(.int (192 : Int32))]))
              refine g_iload X43 hx hby at_334 (pc' := 336) rfl rfl ?_
              by_cases hc336 : cc.toInt < (192 : Int)
              · refine g_icmpYes X43 hx hby at_336 (pc' := 342) (tlt (show cc < (192 : Int32) from Int32.lt_iff_toInt_lt.mpr hc336)).2.2.1 (by decide) (by decide) ?_
                refine g_iload X43 hx hby at_342 (pc' := 344) rfl rfl ?_
                refine g_iconst X43 hx hby at_344 (pc' := 345) rfl (z := (1 : Int32)) rfl ?_
                refine g_iand X43 hx hby at_345 (pc' := 346) rfl (z := (0 : Int32)) rfl ?_
                refine g_iconst X43 hx hby at_346 (pc' := 347) rfl (z := (1 : Int32)) rfl ?_
                have hc347 : ¬ ((0 : Int) = (1 : Int)) := by decide
                refine g_icmpYes X43 hx hby at_347 (pc' := 354) (feq (show ¬ ((0 : Int32) = (1 : Int32)) from fun q => hc347 (congrArg Int32.toInt q))).2 (by decide) (by decide) ?_
                refine g_iconst X43 hx hby at_354 (pc' := 355) rfl (z := (0 : Int32)) rfl ?_
                refine g_istore X43 hx hby at_355 (pc' := 357) rfl (L' := #[.val (.int p1), .val (.int p2), .val (.int p3), .val (.ref b1), .val (.int md), .val (.int cc), .val (.int (0 : Int32)), .val (.int (8 : Int32))]) rfl ?_
                exact J357 ((0 : Int32), .val (.int (8 : Int32))) (by unfold own_ns; first | (rw [if_pos (by omega)]) | (rw [if_neg (by omega)]))
              · refine g_icmpNo X43 hx hby at_336 (pc' := 339) (flt (show ¬ (cc < (192 : Int32)) from fun q => hc336 (Int32.lt_iff_toInt_lt.mp q))).2.2.1 rfl ?_
                refine g_iinc X43 hx hby at_339 (pc' := 342) rfl rfl (L' := #[.val (.int p1), .val (.int p2), .val (.int p3), .val (.ref b1), .val (.int md), .val (.int cc), .unset, .val (.int (9 : Int32))]) rfl ?_
                refine g_iload X43 hx hby at_342 (pc' := 344) rfl rfl ?_
                refine g_iconst X43 hx hby at_344 (pc' := 345) rfl (z := (1 : Int32)) rfl ?_
                refine g_iand X43 hx hby at_345 (pc' := 346) rfl (z := (1 : Int32)) rfl ?_
                refine g_iconst X43 hx hby at_346 (pc' := 347) rfl (z := (1 : Int32)) rfl ?_
                have hc347 : (1 : Int) = (1 : Int) := by decide
                refine g_icmpNo X43 hx hby at_347 (pc' := 350) (teq (show (1 : Int32) = (1 : Int32) from Int32.toInt_inj.mp hc347)).2 rfl ?_
                refine g_iconst X43 hx hby at_350 (pc' := 351) rfl (z := (1 : Int32)) rfl ?_
                refine g_goto X43 hx hby at_351 (pc' := 355) (by decide) (by decide) ?_
                refine g_istore X43 hx hby at_355 (pc' := 357) rfl (L' := #[.val (.int p1), .val (.int p2), .val (.int p3), .val (.ref b1), .val (.int md), .val (.int cc), .val (.int (1 : Int32)), .val (.int (9 : Int32))]) rfl ?_
                exact J357 ((1 : Int32), .val (.int (9 : Int32))) (by unfold own_ns; first | (rw [if_pos (by omega)]) | (rw [if_neg (by omega)]))
            · refine g_icmpNo X43 hx hby at_324 (pc' := 327) (flt (show ¬ (cc < (215 : Int32)) from fun q => hc324 (Int32.lt_iff_toInt_lt.mp q))).2.2.1 rfl ?_
              refine g_iinc X43 hx hby at_327 (pc' := 330) rfl rfl (L' := #[.val (.int p1), .val (.int p2), .val (.int p3), .val (.ref b1), .val (.int md), .val (.int cc), .unset, .val (.int (10 : Int32))]) rfl ?_
              refine g_aloadN X43 hx hby at_330 (pc' := 331) rfl rfl rfl ?_
              refine g_iload X43 hx hby at_331 (pc' := 333) rfl rfl ?_
              refine Go.iaload X43 hx hZ e43 VB (k := 10) rfl (by decide) (hb hby at_333) ?_
              show Go p.tables e below s _ _ _ (T43.setTop (mkF m 334 #[.val (.int p1), .val (.int p2), .val (.int p3), .val (.ref b1), .val (.int md), .val (.int cc), .unset, .val (.int (10 : Int32))] [(.int (216 : Int32))]))
              refine g_iload X43 hx hby at_334 (pc' := 336) rfl rfl ?_
              by_cases hc336 : cc.toInt < (216 : Int)
              · refine g_icmpYes X43 hx hby at_336 (pc' := 342) (tlt (show cc < (216 : Int32) from Int32.lt_iff_toInt_lt.mpr hc336)).2.2.1 (by decide) (by decide) ?_
                refine g_iload X43 hx hby at_342 (pc' := 344) rfl rfl ?_
                refine g_iconst X43 hx hby at_344 (pc' := 345) rfl (z := (1 : Int32)) rfl ?_
                refine g_iand X43 hx hby at_345 (pc' := 346) rfl (z := (0 : Int32)) rfl ?_
                refine g_iconst X43 hx hby at_346 (pc' := 347) rfl (z := (1 : Int32)) rfl ?_
                have hc347 : ¬ ((0 : Int) = (1 : Int)) := by decide
                refine g_icmpYes X43 hx hby at_347 (pc' := 354) (feq (show ¬ ((0 : Int32) = (1 : Int32)) from fun q => hc347 (congrArg Int32.toInt q))).2 (by decide) (by decide) ?_
                refine g_iconst X43 hx hby at_354 (pc' := 355) rfl (z := (0 : Int32)) rfl ?_
                refine g_istore X43 hx hby at_355 (pc' := 357) rfl (L' := #[.val (.int p1), .val (.int p2), .val (.int p3), .val (.ref b1), .val (.int md), .val (.int cc), .val (.int (0 : Int32)), .val (.int (10 : Int32))]) rfl ?_
                exact J357 ((0 : Int32), .val (.int (10 : Int32))) (by unfold own_ns; first | (rw [if_pos (by omega)]) | (rw [if_neg (by omega)]))
              · refine g_icmpNo X43 hx hby at_336 (pc' := 339) (flt (show ¬ (cc < (216 : Int32)) from fun q => hc336 (Int32.lt_iff_toInt_lt.mp q))).2.2.1 rfl ?_
                refine g_iinc X43 hx hby at_339 (pc' := 342) rfl rfl (L' := #[.val (.int p1), .val (.int p2), .val (.int p3), .val (.ref b1), .val (.int md), .val (.int cc), .unset, .val (.int (11 : Int32))]) rfl ?_
                refine g_iload X43 hx hby at_342 (pc' := 344) rfl rfl ?_
                refine g_iconst X43 hx hby at_344 (pc' := 345) rfl (z := (1 : Int32)) rfl ?_
                refine g_iand X43 hx hby at_345 (pc' := 346) rfl (z := (1 : Int32)) rfl ?_
                refine g_iconst X43 hx hby at_346 (pc' := 347) rfl (z := (1 : Int32)) rfl ?_
                have hc347 : (1 : Int) = (1 : Int) := by decide
                refine g_icmpNo X43 hx hby at_347 (pc' := 350) (teq (show (1 : Int32) = (1 : Int32) from Int32.toInt_inj.mp hc347)).2 rfl ?_
                refine g_iconst X43 hx hby at_350 (pc' := 351) rfl (z := (1 : Int32)) rfl ?_
                refine g_goto X43 hx hby at_351 (pc' := 355) (by decide) (by decide) ?_
                refine g_istore X43 hx hby at_355 (pc' := 357) rfl (L' := #[.val (.int p1), .val (.int p2), .val (.int p3), .val (.ref b1), .val (.int md), .val (.int cc), .val (.int (1 : Int32)), .val (.int (11 : Int32))]) rfl ?_
                exact J357 ((1 : Int32), .val (.int (11 : Int32))) (by unfold own_ns; first | (rw [if_pos (by omega)]) | (rw [if_neg (by omega)]))
          · refine g_icmpNo X43 hx hby at_310 (pc' := 313) (flt (show ¬ (cc < (247 : Int32)) from fun q => hc310 (Int32.lt_iff_toInt_lt.mp q))).2.2.1 rfl ?_
            refine g_iinc X43 hx hby at_313 (pc' := 316) rfl rfl (L' := #[.val (.int p1), .val (.int p2), .val (.int p3), .val (.ref b1), .val (.int md), .val (.int cc), .unset, .val (.int (12 : Int32))]) rfl ?_
            refine g_aloadN X43 hx hby at_316 (pc' := 317) rfl rfl rfl ?_
            refine g_iload X43 hx hby at_317 (pc' := 319) rfl rfl ?_
            refine g_iconst X43 hx hby at_319 (pc' := 320) rfl (z := (1 : Int32)) rfl ?_
            refine g_iadd X43 hx hby at_320 (pc' := 321) rfl (z := (13 : Int32)) rfl ?_
            refine Go.iaload X43 hx hZ e43 VB (k := 13) rfl (by decide) (hb hby at_321) ?_
            show Go p.tables e below s _ _ _ (T43.setTop (mkF m 322 #[.val (.int p1), .val (.int p2), .val (.int p3), .val (.ref b1), .val (.int md), .val (.int cc), .unset, .val (.int (12 : Int32))] [(.int (768 : Int32))]))
            refine g_iload X43 hx hby at_322 (pc' := 324) rfl rfl ?_
            by_cases hc324 : cc.toInt < (768 : Int)
            · refine g_icmpYes X43 hx hby at_324 (pc' := 330) (tlt (show cc < (768 : Int32) from Int32.lt_iff_toInt_lt.mpr hc324)).2.2.1 (by decide) (by decide) ?_
              refine g_aloadN X43 hx hby at_330 (pc' := 331) rfl rfl rfl ?_
              refine g_iload X43 hx hby at_331 (pc' := 333) rfl rfl ?_
              refine Go.iaload X43 hx hZ e43 VB (k := 12) rfl (by decide) (hb hby at_333) ?_
              show Go p.tables e below s _ _ _ (T43.setTop (mkF m 334 #[.val (.int p1), .val (.int p2), .val (.int p3), .val (.ref b1), .val (.int md), .val (.int cc), .unset, .val (.int (12 : Int32))] [(.int (248 : Int32))]))
              refine g_iload X43 hx hby at_334 (pc' := 336) rfl rfl ?_
              by_cases hc336 : cc.toInt < (248 : Int)
              · refine g_icmpYes X43 hx hby at_336 (pc' := 342) (tlt (show cc < (248 : Int32) from Int32.lt_iff_toInt_lt.mpr hc336)).2.2.1 (by decide) (by decide) ?_
                refine g_iload X43 hx hby at_342 (pc' := 344) rfl rfl ?_
                refine g_iconst X43 hx hby at_344 (pc' := 345) rfl (z := (1 : Int32)) rfl ?_
                refine g_iand X43 hx hby at_345 (pc' := 346) rfl (z := (0 : Int32)) rfl ?_
                refine g_iconst X43 hx hby at_346 (pc' := 347) rfl (z := (1 : Int32)) rfl ?_
                have hc347 : ¬ ((0 : Int) = (1 : Int)) := by decide
                refine g_icmpYes X43 hx hby at_347 (pc' := 354) (feq (show ¬ ((0 : Int32) = (1 : Int32)) from fun q => hc347 (congrArg Int32.toInt q))).2 (by decide) (by decide) ?_
                refine g_iconst X43 hx hby at_354 (pc' := 355) rfl (z := (0 : Int32)) rfl ?_
                refine g_istore X43 hx hby at_355 (pc' := 357) rfl (L' := #[.val (.int p1), .val (.int p2), .val (.int p3), .val (.ref b1), .val (.int md), .val (.int cc), .val (.int (0 : Int32)), .val (.int (12 : Int32))]) rfl ?_
                exact J357 ((0 : Int32), .val (.int (12 : Int32))) (by unfold own_ns; first | (rw [if_pos (by omega)]) | (rw [if_neg (by omega)]))
              · refine g_icmpNo X43 hx hby at_336 (pc' := 339) (flt (show ¬ (cc < (248 : Int32)) from fun q => hc336 (Int32.lt_iff_toInt_lt.mp q))).2.2.1 rfl ?_
                refine g_iinc X43 hx hby at_339 (pc' := 342) rfl rfl (L' := #[.val (.int p1), .val (.int p2), .val (.int p3), .val (.ref b1), .val (.int md), .val (.int cc), .unset, .val (.int (13 : Int32))]) rfl ?_
                refine g_iload X43 hx hby at_342 (pc' := 344) rfl rfl ?_
                refine g_iconst X43 hx hby at_344 (pc' := 345) rfl (z := (1 : Int32)) rfl ?_
                refine g_iand X43 hx hby at_345 (pc' := 346) rfl (z := (1 : Int32)) rfl ?_
                refine g_iconst X43 hx hby at_346 (pc' := 347) rfl (z := (1 : Int32)) rfl ?_
                have hc347 : (1 : Int) = (1 : Int) := by decide
                refine g_icmpNo X43 hx hby at_347 (pc' := 350) (teq (show (1 : Int32) = (1 : Int32) from Int32.toInt_inj.mp hc347)).2 rfl ?_
                refine g_iconst X43 hx hby at_350 (pc' := 351) rfl (z := (1 : Int32)) rfl ?_
                refine g_goto X43 hx hby at_351 (pc' := 355) (by decide) (by decide) ?_
                refine g_istore X43 hx hby at_355 (pc' := 357) rfl (L' := #[.val (.int p1), .val (.int p2), .val (.int p3), .val (.ref b1), .val (.int md), .val (.int cc), .val (.int (1 : Int32)), .val (.int (13 : Int32))]) rfl ?_
                exact J357 ((1 : Int32), .val (.int (13 : Int32))) (by unfold own_ns; first | (rw [if_pos (by omega)]) | (rw [if_neg (by omega)]))
            · refine g_icmpNo X43 hx hby at_324 (pc' := 327) (flt (show ¬ (cc < (768 : Int32)) from fun q => hc324 (Int32.lt_iff_toInt_lt.mp q))).2.2.1 rfl ?_
              refine g_iinc X43 hx hby at_327 (pc' := 330) rfl rfl (L' := #[.val (.int p1), .val (.int p2), .val (.int p3), .val (.ref b1), .val (.int md), .val (.int cc), .unset, .val (.int (14 : Int32))]) rfl ?_
              refine g_aloadN X43 hx hby at_330 (pc' := 331) rfl rfl rfl ?_
              refine g_iload X43 hx hby at_331 (pc' := 333) rfl rfl ?_
              refine Go.iaload X43 hx hZ e43 VB (k := 14) rfl (by decide) (hb hby at_333) ?_
              show Go p.tables e below s _ _ _ (T43.setTop (mkF m 334 #[.val (.int p1), .val (.int p2), .val (.int p3), .val (.ref b1), .val (.int md), .val (.int cc), .unset, .val (.int (14 : Int32))] [(.int (880 : Int32))]))
              refine g_iload X43 hx hby at_334 (pc' := 336) rfl rfl ?_
              by_cases hc336 : cc.toInt < (880 : Int)
              · refine g_icmpYes X43 hx hby at_336 (pc' := 342) (tlt (show cc < (880 : Int32) from Int32.lt_iff_toInt_lt.mpr hc336)).2.2.1 (by decide) (by decide) ?_
                refine g_iload X43 hx hby at_342 (pc' := 344) rfl rfl ?_
                refine g_iconst X43 hx hby at_344 (pc' := 345) rfl (z := (1 : Int32)) rfl ?_
                refine g_iand X43 hx hby at_345 (pc' := 346) rfl (z := (0 : Int32)) rfl ?_
                refine g_iconst X43 hx hby at_346 (pc' := 347) rfl (z := (1 : Int32)) rfl ?_
                have hc347 : ¬ ((0 : Int) = (1 : Int)) := by decide
                refine g_icmpYes X43 hx hby at_347 (pc' := 354) (feq (show ¬ ((0 : Int32) = (1 : Int32)) from fun q => hc347 (congrArg Int32.toInt q))).2 (by decide) (by decide) ?_
                refine g_iconst X43 hx hby at_354 (pc' := 355) rfl (z := (0 : Int32)) rfl ?_
                refine g_istore X43 hx hby at_355 (pc' := 357) rfl (L' := #[.val (.int p1), .val (.int p2), .val (.int p3), .val (.ref b1), .val (.int md), .val (.int cc), .val (.int (0 : Int32)), .val (.int (14 : Int32))]) rfl ?_
                exact J357 ((0 : Int32), .val (.int (14 : Int32))) (by unfold own_ns; first | (rw [if_pos (by omega)]) | (rw [if_neg (by omega)]))
              · refine g_icmpNo X43 hx hby at_336 (pc' := 339) (flt (show ¬ (cc < (880 : Int32)) from fun q => hc336 (Int32.lt_iff_toInt_lt.mp q))).2.2.1 rfl ?_
                refine g_iinc X43 hx hby at_339 (pc' := 342) rfl rfl (L' := #[.val (.int p1), .val (.int p2), .val (.int p3), .val (.ref b1), .val (.int md), .val (.int cc), .unset, .val (.int (15 : Int32))]) rfl ?_
                refine g_iload X43 hx hby at_342 (pc' := 344) rfl rfl ?_
                refine g_iconst X43 hx hby at_344 (pc' := 345) rfl (z := (1 : Int32)) rfl ?_
                refine g_iand X43 hx hby at_345 (pc' := 346) rfl (z := (1 : Int32)) rfl ?_
                refine g_iconst X43 hx hby at_346 (pc' := 347) rfl (z := (1 : Int32)) rfl ?_
                have hc347 : (1 : Int) = (1 : Int) := by decide
                refine g_icmpNo X43 hx hby at_347 (pc' := 350) (teq (show (1 : Int32) = (1 : Int32) from Int32.toInt_inj.mp hc347)).2 rfl ?_
                refine g_iconst X43 hx hby at_350 (pc' := 351) rfl (z := (1 : Int32)) rfl ?_
                refine g_goto X43 hx hby at_351 (pc' := 355) (by decide) (by decide) ?_
                refine g_istore X43 hx hby at_355 (pc' := 357) rfl (L' := #[.val (.int p1), .val (.int p2), .val (.int p3), .val (.ref b1), .val (.int md), .val (.int cc), .val (.int (1 : Int32)), .val (.int (15 : Int32))]) rfl ?_
                exact J357 ((1 : Int32), .val (.int (15 : Int32))) (by unfold own_ns; first | (rw [if_pos (by omega)]) | (rw [if_neg (by omega)]))
      · refine g_icmpNo X43 hx hby at_281 (pc' := 284) (flt (show ¬ (cc < (894 : Int32)) from fun q => hc281 (Int32.lt_iff_toInt_lt.mp q))).2.2.1 rfl ?_
        refine g_iinc X43 hx hby at_284 (pc' := 287) rfl rfl (L' := #[.val (.int p1), .val (.int p2), .val (.int p3), .val (.ref b1), .val (.int md), .val (.int cc), .unset, .val (.int (16 : Int32))]) rfl ?_
        refine g_aloadN X43 hx hby at_287 (pc' := 288) rfl rfl rfl ?_
        refine g_iload X43 hx hby at_288 (pc' := 290) rfl rfl ?_
        refine g_bipush X43 hx hby at_290 (pc' := 292) rfl (z := (7 : Int32)) rfl ?_
        refine g_iadd X43 hx hby at_292 (pc' := 293) rfl (z := (23 : Int32)) rfl ?_
        refine Go.iaload X43 hx hZ e43 VB (k := 23) rfl (by decide) (hb hby at_293) ?_
        show Go p.tables e below s _ _ _ (T43.setTop (mkF m 294 #[.val (.int p1), .val (.int p2), .val (.int p3), .val (.ref b1), .val (.int md), .val (.int cc), .unset, .val (.int (16 : Int32))] [(.int (12272 : Int32))]))
        refine g_iload X43 hx hby at_294 (pc' := 296) rfl rfl ?_
        by_cases hc296 : cc.toInt < (12272 : Int)
        · refine g_icmpYes X43 hx hby at_296 (pc' := 302) (tlt (show cc < (12272 : Int32) from Int32.lt_iff_toInt_lt.mpr hc296)).2.2.1 (by decide) (by decide) ?_
          refine g_aloadN X43 hx hby at_302 (pc' := 303) rfl rfl rfl ?_
          refine g_iload X43 hx hby at_303 (pc' := 305) rfl rfl ?_
          refine g_iconst X43 hx hby at_305 (pc' := 306) rfl (z := (3 : Int32)) rfl ?_
          refine g_iadd X43 hx hby at_306 (pc' := 307) rfl (z := (19 : Int32)) rfl ?_
          refine Go.iaload X43 hx hZ e43 VB (k := 19) rfl (by decide) (hb hby at_307) ?_
          show Go p.tables e below s _ _ _ (T43.setTop (mkF m 308 #[.val (.int p1), .val (.int p2), .val (.int p3), .val (.ref b1), .val (.int md), .val (.int cc), .unset, .val (.int (16 : Int32))] [(.int (8206 : Int32))]))
          refine g_iload X43 hx hby at_308 (pc' := 310) rfl rfl ?_
          by_cases hc310 : cc.toInt < (8206 : Int)
          · refine g_icmpYes X43 hx hby at_310 (pc' := 316) (tlt (show cc < (8206 : Int32) from Int32.lt_iff_toInt_lt.mpr hc310)).2.2.1 (by decide) (by decide) ?_
            refine g_aloadN X43 hx hby at_316 (pc' := 317) rfl rfl rfl ?_
            refine g_iload X43 hx hby at_317 (pc' := 319) rfl rfl ?_
            refine g_iconst X43 hx hby at_319 (pc' := 320) rfl (z := (1 : Int32)) rfl ?_
            refine g_iadd X43 hx hby at_320 (pc' := 321) rfl (z := (17 : Int32)) rfl ?_
            refine Go.iaload X43 hx hZ e43 VB (k := 17) rfl (by decide) (hb hby at_321) ?_
            show Go p.tables e below s _ _ _ (T43.setTop (mkF m 322 #[.val (.int p1), .val (.int p2), .val (.int p3), .val (.ref b1), .val (.int md), .val (.int cc), .unset, .val (.int (16 : Int32))] [(.int (8192 : Int32))]))
            refine g_iload X43 hx hby at_322 (pc' := 324) rfl rfl ?_
            by_cases hc324 : cc.toInt < (8192 : Int)
            · refine g_icmpYes X43 hx hby at_324 (pc' := 330) (tlt (show cc < (8192 : Int32) from Int32.lt_iff_toInt_lt.mpr hc324)).2.2.1 (by decide) (by decide) ?_
              refine g_aloadN X43 hx hby at_330 (pc' := 331) rfl rfl rfl ?_
              refine g_iload X43 hx hby at_331 (pc' := 333) rfl rfl ?_
              refine Go.iaload X43 hx hZ e43 VB (k := 16) rfl (by decide) (hb hby at_333) ?_
              show Go p.tables e below s _ _ _ (T43.setTop (mkF m 334 #[.val (.int p1), .val (.int p2), .val (.int p3), .val (.ref b1), .val (.int md), .val (.int cc), .unset, .val (.int (16 : Int32))] [(.int (895 : Int32))]))
              refine g_iload X43 hx hby at_334 (pc' := 336) rfl rfl ?_
              by_cases hc336 : cc.toInt < (895 : Int)
              · refine g_icmpYes X43 hx hby at_336 (pc' := 342) (tlt (show cc < (895 : Int32) from Int32.lt_iff_toInt_lt.mpr hc336)).2.2.1 (by decide) (by decide) ?_
                refine g_iload X43 hx hby at_342 (pc' := 344) rfl rfl ?_
                refine g_iconst X43 hx hby at_344 (pc' := 345) rfl (z := (1 : Int32)) rfl ?_
                refine g_iand X43 hx hby at_345 (pc' := 346) rfl (z := (0 : Int32)) rfl ?_
                refine g_iconst X43 hx hby at_346 (pc' := 347) rfl (z := (1 : Int32)) rfl ?_
                have hc347 : ¬ ((0 : Int) = (1 : Int)) := by decide
                refine g_icmpYes X43 hx hby at_347 (pc' := 354) (feq (show ¬ ((0 : Int32) = (1 : Int32)) from fun q => hc347 (congrArg Int32.toInt q))).2 (by decide) (by decide) ?_
                refine g_iconst X43 hx hby at_354 (pc' := 355) rfl (z := (0 : Int32)) rfl ?_
                refine g_istore X43 hx hby at_355 (pc' := 357) rfl (L' := #[.val (.int p1), .val (.int p2), .val (.int p3), .val (.ref b1), .val (.int md), .val (.int cc), .val (.int (0 : Int32)), .val (.int (16 : Int32))]) rfl ?_
                exact J357 ((0 : Int32), .val (.int (16 : Int32))) (by unfold own_ns; first | (rw [if_pos (by omega)]) | (rw [if_neg (by omega)]))
              · refine g_icmpNo X43 hx hby at_336 (pc' := 339) (flt (show ¬ (cc < (895 : Int32)) from fun q => hc336 (Int32.lt_iff_toInt_lt.mp q))).2.2.1 rfl ?_
                refine g_iinc X43 hx hby at_339 (pc' := 342) rfl rfl (L' := #[.val (.int p1), .val (.int p2), .val (.int p3), .val (.ref b1), .val (.int md), .val (.int cc), .unset, .val (.int (17 : Int32))]) rfl ?_
                refine g_iload X43 hx hby at_342 (pc' := 344) rfl rfl ?_
                refine g_iconst X43 hx hby at_344 (pc' := 345) rfl (z := (1 : Int32)) rfl ?_
                refine g_iand X43 hx hby at_345 (pc' := 346) rfl (z := (1 : Int32)) rfl ?_
                refine g_iconst X43 hx hby at_346 (pc' := 347) rfl (z := (1 : Int32)) rfl ?_
                have hc347 : (1 : Int) = (1 : Int) := by decide
                refine g_icmpNo X43 hx hby at_347 (pc' := 350) (teq (show (1 : Int32) = (1 : Int32) from Int32.toInt_inj.mp hc347)).2 rfl ?_
                refine g_iconst X43 hx hby at_350 (pc' := 351) rfl (z := (1 : Int32)) rfl ?_
                refine g_goto X43 hx hby at_351 (pc' := 355) (by decide) (by decide) ?_
                refine g_istore X43 hx hby at_355 (pc' := 357) rfl (L' := #[.val (.int p1), .val (.int p2), .val (.int p3), .val (.ref b1), .val (.int md), .val (.int cc), .val (.int (1 : Int32)), .val (.int (17 : Int32))]) rfl ?_
                exact J357 ((1 : Int32), .val (.int (17 : Int32))) (by unfold own_ns; first | (rw [if_pos (by omega)]) | (rw [if_neg (by omega)]))
            · refine g_icmpNo X43 hx hby at_324 (pc' := 327) (flt (show ¬ (cc < (8192 : Int32)) from fun q => hc324 (Int32.lt_iff_toInt_lt.mp q))).2.2.1 rfl ?_
              refine g_iinc X43 hx hby at_327 (pc' := 330) rfl rfl (L' := #[.val (.int p1), .val (.int p2), .val (.int p3), .val (.ref b1), .val (.int md), .val (.int cc), .unset, .val (.int (18 : Int32))]) rfl ?_
              refine g_aloadN X43 hx hby at_330 (pc' := 331) rfl rfl rfl ?_
              refine g_iload X43 hx hby at_331 (pc' := 333) rfl rfl ?_
              refine Go.iaload X43 hx hZ e43 VB (k := 18) rfl (by decide) (hb hby at_333) ?_
              show Go p.tables e below s _ _ _ (T43.setTop (mkF m 334 #[.val (.int p1), .val (.int p2), .val (.int p3), .val (.ref b1), .val (.int md), .val (.int cc), .unset, .val (.int (18 : Int32))] [(.int (8204 : Int32))]))
              refine g_iload X43 hx hby at_334 (pc' := 336) rfl rfl ?_
              by_cases hc336 : cc.toInt < (8204 : Int)
              · refine g_icmpYes X43 hx hby at_336 (pc' := 342) (tlt (show cc < (8204 : Int32) from Int32.lt_iff_toInt_lt.mpr hc336)).2.2.1 (by decide) (by decide) ?_
                refine g_iload X43 hx hby at_342 (pc' := 344) rfl rfl ?_
                refine g_iconst X43 hx hby at_344 (pc' := 345) rfl (z := (1 : Int32)) rfl ?_
                refine g_iand X43 hx hby at_345 (pc' := 346) rfl (z := (0 : Int32)) rfl ?_
                refine g_iconst X43 hx hby at_346 (pc' := 347) rfl (z := (1 : Int32)) rfl ?_
                have hc347 : ¬ ((0 : Int) = (1 : Int)) := by decide
                refine g_icmpYes X43 hx hby at_347 (pc' := 354) (feq (show ¬ ((0 : Int32) = (1 : Int32)) from fun q => hc347 (congrArg Int32.toInt q))).2 (by decide) (by decide) ?_
                refine g_iconst X43 hx hby at_354 (pc' := 355) rfl (z := (0 : Int32)) rfl ?_
                refine g_istore X43 hx hby at_355 (pc' := 357) rfl (L' := #[.val (.int p1), .val (.int p2), .val (.int p3), .val (.ref b1), .val (.int md), .val (.int cc), .val (.int (0 : Int32)), .val (.int (18 : Int32))]) rfl ?_
                exact J357 ((0 : Int32), .val (.int (18 : Int32))) (by unfold own_ns; first | (rw [if_pos (by omega)]) | (rw [if_neg (by omega)]))
              · refine g_icmpNo X43 hx hby at_336 (pc' := 339) (flt (show ¬ (cc < (8204 : Int32)) from fun q => hc336 (Int32.lt_iff_toInt_lt.mp q))).2.2.1 rfl ?_
                refine g_iinc X43 hx hby at_339 (pc' := 342) rfl rfl (L' := #[.val (.int p1), .val (.int p2), .val (.int p3), .val (.ref b1), .val (.int md), .val (.int cc), .unset, .val (.int (19 : Int32))]) rfl ?_
                refine g_iload X43 hx hby at_342 (pc' := 344) rfl rfl ?_
                refine g_iconst X43 hx hby at_344 (pc' := 345) rfl (z := (1 : Int32)) rfl ?_
                refine g_iand X43 hx hby at_345 (pc' := 346) rfl (z := (1 : Int32)) rfl ?_
                refine g_iconst X43 hx hby at_346 (pc' := 347) rfl (z := (1 : Int32)) rfl ?_
                have hc347 : (1 : Int) = (1 : Int) := by decide
                refine g_icmpNo X43 hx hby at_347 (pc' := 350) (teq (show (1 : Int32) = (1 : Int32) from Int32.toInt_inj.mp hc347)).2 rfl ?_
                refine g_iconst X43 hx hby at_350 (pc' := 351) rfl (z := (1 : Int32)) rfl ?_
                refine g_goto X43 hx hby at_351 (pc' := 355) (by decide) (by decide) ?_
                refine g_istore X43 hx hby at_355 (pc' := 357) rfl (L' := #[.val (.int p1), .val (.int p2), .val (.int p3), .val (.ref b1), .val (.int md), .val (.int cc), .val (.int (1 : Int32)), .val (.int (19 : Int32))]) rfl ?_
                exact J357 ((1 : Int32), .val (.int (19 : Int32))) (by unfold own_ns; first | (rw [if_pos (by omega)]) | (rw [if_neg (by omega)]))
          · refine g_icmpNo X43 hx hby at_310 (pc' := 313) (flt (show ¬ (cc < (8206 : Int32)) from fun q => hc310 (Int32.lt_iff_toInt_lt.mp q))).2.2.1 rfl ?_
            refine g_iinc X43 hx hby at_313 (pc' := 316) rfl rfl (L' := #[.val (.int p1), .val (.int p2), .val (.int p3), .val (.ref b1), .val (.int md), .val (.int cc), .unset, .val (.int (20 : Int32))]) rfl ?_
            refine g_aloadN X43 hx hby at_316 (pc' := 317) rfl rfl rfl ?_
            refine g_iload X43 hx hby at_317 (pc' := 319) rfl rfl ?_
            refine g_iconst X43 hx hby at_319 (pc' := 320) rfl (z := (1 : Int32)) rfl ?_
            refine g_iadd X43 hx hby at_320 (pc' := 321) rfl (z := (21 : Int32)) rfl ?_
            refine Go.iaload X43 hx hZ e43 VB (k := 21) rfl (by decide) (hb hby at_321) ?_
            show Go p.tables e below s _ _ _ (T43.setTop (mkF m 322 #[.val (.int p1), .val (.int p2), .val (.int p3), .val (.ref b1), .val (.int md), .val (.int cc), .unset, .val (.int (20 : Int32))] [(.int (8592 : Int32))]))
            refine g_iload X43 hx hby at_322 (pc' := 324) rfl rfl ?_
            by_cases hc324 : cc.toInt < (8592 : Int)
            · refine g_icmpYes X43 hx hby at_324 (pc' := 330) (tlt (show cc < (8592 : Int32) from Int32.lt_iff_toInt_lt.mpr hc324)).2.2.1 (by decide) (by decide) ?_
              refine g_aloadN X43 hx hby at_330 (pc' := 331) rfl rfl rfl ?_
              refine g_iload X43 hx hby at_331 (pc' := 333) rfl rfl ?_
              refine Go.iaload X43 hx hZ e43 VB (k := 20) rfl (by decide) (hb hby at_333) ?_
              show Go p.tables e below s _ _ _ (T43.setTop (mkF m 334 #[.val (.int p1), .val (.int p2), .val (.int p3), .val (.ref b1), .val (.int md), .val (.int cc), .unset, .val (.int (20 : Int32))] [(.int (8304 : Int32))]))
              refine g_iload X43 hx hby at_334 (pc' := 336) rfl rfl ?_
              by_cases hc336 : cc.toInt < (8304 : Int)
              · refine g_icmpYes X43 hx hby at_336 (pc' := 342) (tlt (show cc < (8304 : Int32) from Int32.lt_iff_toInt_lt.mpr hc336)).2.2.1 (by decide) (by decide) ?_
                refine g_iload X43 hx hby at_342 (pc' := 344) rfl rfl ?_
                refine g_iconst X43 hx hby at_344 (pc' := 345) rfl (z := (1 : Int32)) rfl ?_
                refine g_iand X43 hx hby at_345 (pc' := 346) rfl (z := (0 : Int32)) rfl ?_
                refine g_iconst X43 hx hby at_346 (pc' := 347) rfl (z := (1 : Int32)) rfl ?_
                have hc347 : ¬ ((0 : Int) = (1 : Int)) := by decide
                refine g_icmpYes X43 hx hby at_347 (pc' := 354) (feq (show ¬ ((0 : Int32) = (1 : Int32)) from fun q => hc347 (congrArg Int32.toInt q))).2 (by decide) (by decide) ?_
                refine g_iconst X43 hx hby at_354 (pc' := 355) rfl (z := (0 : Int32)) rfl ?_
                refine g_istore X43 hx hby at_355 (pc' := 357) rfl (L' := #[.val (.int p1), .val (.int p2), .val (.int p3), .val (.ref b1), .val (.int md), .val (.int cc), .val (.int (0 : Int32)), .val (.int (20 : Int32))]) rfl ?_
                exact J357 ((0 : Int32), .val (.int (20 : Int32))) (by unfold own_ns; first | (rw [if_pos (by omega)]) | (rw [if_neg (by omega)]))
              · refine g_icmpNo X43 hx hby at_336 (pc' := 339) (flt (show ¬ (cc < (8304 : Int32)) from fun q => hc336 (Int32.lt_iff_toInt_lt.mp q))).2.2.1 rfl ?_
                refine g_iinc X43 hx hby at_339 (pc' := 342) rfl rfl (L' := #[.val (.int p1), .val (.int p2), .val (.int p3), .val (.ref b1), .val (.int md), .val (.int cc), .unset, .val (.int (21 : Int32))]) rfl ?_
                refine g_iload X43 hx hby at_342 (pc' := 344) rfl rfl ?_
                refine g_iconst X43 hx hby at_344 (pc' := 345) rfl (z := (1 : Int32)) rfl ?_
                refine g_iand X43 hx hby at_345 (pc' := 346) rfl (z := (1 : Int32)) rfl ?_
                refine g_iconst X43 hx hby at_346 (pc' := 347) rfl (z := (1 : Int32)) rfl ?_
                have hc347 : (1 : Int) = (1 : Int) := by decide
                refine g_icmpNo X43 hx hby at_347 (pc' := 350) (teq (show (1 : Int32) = (1 : Int32) from Int32.toInt_inj.mp hc347)).2 rfl ?_
                refine g_iconst X43 hx hby at_350 (pc' := 351) rfl (z := (1 : Int32)) rfl ?_
                refine g_goto X43 hx hby at_351 (pc' := 355) (by decide) (by decide) ?_
                refine g_istore X43 hx hby at_355 (pc' := 357) rfl (L' := #[.val (.int p1), .val (.int p2), .val (.int p3), .val (.ref b1), .val (.int md), .val (.int cc), .val (.int (1 : Int32)), .val (.int (21 : Int32))]) rfl ?_
                exact J357 ((1 : Int32), .val (.int (21 : Int32))) (by unfold own_ns; first | (rw [if_pos (by omega)]) | (rw [if_neg (by omega)]))
            · refine g_icmpNo X43 hx hby at_324 (pc' := 327) (flt (show ¬ (cc < (8592 : Int32)) from fun q => hc324 (Int32.lt_iff_toInt_lt.mp q))).2.2.1 rfl ?_
              refine g_iinc X43 hx hby at_327 (pc' := 330) rfl rfl (L' := #[.val (.int p1), .val (.int p2), .val (.int p3), .val (.ref b1), .val (.int md), .val (.int cc), .unset, .val (.int (22 : Int32))]) rfl ?_
              refine g_aloadN X43 hx hby at_330 (pc' := 331) rfl rfl rfl ?_
              refine g_iload X43 hx hby at_331 (pc' := 333) rfl rfl ?_
              refine Go.iaload X43 hx hZ e43 VB (k := 22) rfl (by decide) (hb hby at_333) ?_
              show Go p.tables e below s _ _ _ (T43.setTop (mkF m 334 #[.val (.int p1), .val (.int p2), .val (.int p3), .val (.ref b1), .val (.int md), .val (.int cc), .unset, .val (.int (22 : Int32))] [(.int (11264 : Int32))]))
              refine g_iload X43 hx hby at_334 (pc' := 336) rfl rfl ?_
              by_cases hc336 : cc.toInt < (11264 : Int)
              · refine g_icmpYes X43 hx hby at_336 (pc' := 342) (tlt (show cc < (11264 : Int32) from Int32.lt_iff_toInt_lt.mpr hc336)).2.2.1 (by decide) (by decide) ?_
                refine g_iload X43 hx hby at_342 (pc' := 344) rfl rfl ?_
                refine g_iconst X43 hx hby at_344 (pc' := 345) rfl (z := (1 : Int32)) rfl ?_
                refine g_iand X43 hx hby at_345 (pc' := 346) rfl (z := (0 : Int32)) rfl ?_
                refine g_iconst X43 hx hby at_346 (pc' := 347) rfl (z := (1 : Int32)) rfl ?_
                have hc347 : ¬ ((0 : Int) = (1 : Int)) := by decide
                refine g_icmpYes X43 hx hby at_347 (pc' := 354) (feq (show ¬ ((0 : Int32) = (1 : Int32)) from fun q => hc347 (congrArg Int32.toInt q))).2 (by decide) (by decide) ?_
                refine g_iconst X43 hx hby at_354 (pc' := 355) rfl (z := (0 : Int32)) rfl ?_
                refine g_istore X43 hx hby at_355 (pc' := 357) rfl (L' := #[.val (.int p1), .val (.int p2), .val (.int p3), .val (.ref b1), .val (.int md), .val (.int cc), .val (.int (0 : Int32)), .val (.int (22 : Int32))]) rfl ?_
                exact J357 ((0 : Int32), .val (.int (22 : Int32))) (by unfold own_ns; first | (rw [if_pos (by omega)]) | (rw [if_neg (by omega)]))
              · refine g_icmpNo X43 hx hby at_336 (pc' := 339) (flt (show ¬ (cc < (11264 : Int32)) from fun q => hc336 (Int32.lt_iff_toInt_lt.mp q))).2.2.1 rfl ?_
                refine g_iinc X43 hx hby at_339 (pc' := 342) rfl rfl (L' := #[.val (.int p1), .val (.int p2), .val (.int p3), .val (.ref b1), .val (.int md), .val (.int cc), .unset, .val (.int (23 : Int32))]) rfl ?_
                refine g_iload X43 hx hby at_342 (pc' := 344) rfl rfl ?_
                refine g_iconst X43 hx hby at_344 (pc' := 345) rfl (z := (1 : Int32)) rfl ?_
                refine g_iand X43 hx hby at_345 (pc' := 346) rfl (z := (1 : Int32)) rfl ?_
                refine g_iconst X43 hx hby at_346 (pc' := 347) rfl (z := (1 : Int32)) rfl ?_
                have hc347 : (1 : Int) = (1 : Int) := by decide
                refine g_icmpNo X43 hx hby at_347 (pc' := 350) (teq (show (1 : Int32) = (1 : Int32) from Int32.toInt_inj.mp hc347)).2 rfl ?_
                refine g_iconst X43 hx hby at_350 (pc' := 351) rfl (z := (1 : Int32)) rfl ?_
                refine g_goto X43 hx hby at_351 (pc' := 355) (by decide) (by decide) ?_
                refine g_istore X43 hx hby at_355 (pc' := 357) rfl (L' := #[.val (.int p1), .val (.int p2), .val (.int p3), .val (.ref b1), .val (.int md), .val (.int cc), .val (.int (1 : Int32)), .val (.int (23 : Int32))]) rfl ?_
                exact J357 ((1 : Int32), .val (.int (23 : Int32))) (by unfold own_ns; first | (rw [if_pos (by omega)]) | (rw [if_neg (by omega)]))
        · refine g_icmpNo X43 hx hby at_296 (pc' := 299) (flt (show ¬ (cc < (12272 : Int32)) from fun q => hc296 (Int32.lt_iff_toInt_lt.mp q))).2.2.1 rfl ?_
          refine g_iinc X43 hx hby at_299 (pc' := 302) rfl rfl (L' := #[.val (.int p1), .val (.int p2), .val (.int p3), .val (.ref b1), .val (.int md), .val (.int cc), .unset, .val (.int (24 : Int32))]) rfl ?_
          refine g_aloadN X43 hx hby at_302 (pc' := 303) rfl rfl rfl ?_
          refine g_iload X43 hx hby at_303 (pc' := 305) rfl rfl ?_
          refine g_iconst X43 hx hby at_305 (pc' := 306) rfl (z := (3 : Int32)) rfl ?_
          refine g_iadd X43 hx hby at_306 (pc' := 307) rfl (z := (27 : Int32)) rfl ?_
          refine Go.iaload X43 hx hZ e43 VB (k := 27) rfl (by decide) (hb hby at_307) ?_
          show Go p.tables e below s _ _ _ (T43.setTop (mkF m 308 #[.val (.int p1), .val (.int p2), .val (.int p3), .val (.ref b1), .val (.int md), .val (.int cc), .unset, .val (.int (24 : Int32))] [(.int (64976 : Int32))]))
          refine g_iload X43 hx hby at_308 (pc' := 310) rfl rfl ?_
          by_cases hc310 : cc.toInt < (64976 : Int)
          · refine g_icmpYes X43 hx hby at_310 (pc' := 316) (tlt (show cc < (64976 : Int32) from Int32.lt_iff_toInt_lt.mpr hc310)).2.2.1 (by decide) (by decide) ?_
            refine g_aloadN X43 hx hby at_316 (pc' := 317) rfl rfl rfl ?_
            refine g_iload X43 hx hby at_317 (pc' := 319) rfl rfl ?_
            refine g_iconst X43 hx hby at_319 (pc' := 320) rfl (z := (1 : Int32)) rfl ?_
            refine g_iadd X43 hx hby at_320 (pc' := 321) rfl (z := (25 : Int32)) rfl ?_
            refine Go.iaload X43 hx hZ e43 VB (k := 25) rfl (by decide) (hb hby at_321) ?_
            show Go p.tables e below s _ _ _ (T43.setTop (mkF m 322 #[.val (.int p1), .val (.int p2), .val (.int p3), .val (.ref b1), .val (.int md), .val (.int cc), .unset, .val (.int (24 : Int32))] [(.int (55296 : Int32))]))
            refine g_iload X43 hx hby at_322 (pc' := 324) rfl rfl ?_
            by_cases hc324 : cc.toInt < (55296 : Int)
            · refine g_icmpYes X43 hx hby at_324 (pc' := 330) (tlt (show cc < (55296 : Int32) from Int32.lt_iff_toInt_lt.mpr hc324)).2.2.1 (by decide) (by decide) ?_
              refine g_aloadN X43 hx hby at_330 (pc' := 331) rfl rfl rfl ?_
              refine g_iload X43 hx hby at_331 (pc' := 333) rfl rfl ?_
              refine Go.iaload X43 hx hZ e43 VB (k := 24) rfl (by decide) (hb hby at_333) ?_
              show Go p.tables e below s _ _ _ (T43.setTop (mkF m 334 #[.val (.int p1), .val (.int p2), .val (.int p3), .val (.ref b1), .val (.int md), .val (.int cc), .unset, .val (.int (24 : Int32))] [(.int (12289 : Int32))]))
              refine g_iload X43 hx hby at_334 (pc' := 336) rfl rfl ?_
              by_cases hc336 : cc.toInt < (12289 : Int)
              · refine g_icmpYes X43 hx hby at_336 (pc' := 342) (tlt (show cc < (12289 : Int32) from Int32.lt_iff_toInt_lt.mpr hc336)).2.2.1 (by decide) (by decide) ?_
                refine g_iload X43 hx hby at_342 (pc' := 344) rfl rfl ?_
                refine g_iconst X43 hx hby at_344 (pc' := 345) rfl (z := (1 : Int32)) rfl ?_
                refine g_iand X43 hx hby at_345 (pc' := 346) rfl (z := (0 : Int32)) rfl ?_
                refine g_iconst X43 hx hby at_346 (pc' := 347) rfl (z := (1 : Int32)) rfl ?_
                have hc347 : ¬ ((0 : Int) = (1 : Int)) := by decide
                refine g_icmpYes X43 hx hby at_347 (pc' := 354) (feq (show ¬ ((0 : Int32) = (1 : Int32)) from fun q => hc347 (congrArg Int32.toInt q))).2 (by decide) (by decide) ?_
                refine g_iconst X43 hx hby at_354 (pc' := 355) rfl (z := (0 : Int32)) rfl ?_
                refine g_istore X43 hx hby at_355 (pc' := 357) rfl (L' := #[.val (.int p1), .val (.int p2), .val (.int p3), .val (.ref b1), .val (.int md), .val (.int cc), .val (.int (0 : Int32)), .val (.int (24 : Int32))]) rfl ?_
                exact J357 ((0 : Int32), .val (.int (24 : Int32))) (by unfold own_ns; first | (rw [if_pos (by omega)]) | (rw [if_neg (by omega)]))
              · refine g_icmpNo X43 hx hby at_336 (pc' := 339) (flt (show ¬ (cc < (12289 : Int32)) from fun q => hc336 (Int32.lt_iff_toInt_lt.mp q))).2.2.1 rfl ?_
                refine g_iinc X43 hx hby at_339 (pc' := 342) rfl rfl (L' := #[.val (.int p1), .val (.int p2), .val (.int p3), .val (.ref b1), .val (.int md), .val (.int cc), .unset, .val (.int (25 : Int32))]) rfl ?_
                refine g_iload X43 hx hby at_342 (pc' := 344) rfl rfl ?_
                refine g_iconst X43 hx hby at_344 (pc' := 345) rfl (z := (1 : Int32)) rfl ?_
                refine g_iand X43 hx hby at_345 (pc' := 346) rfl (z := (1 : Int32)) rfl ?_
                refine g_iconst X43 hx hby at_346 (pc' := 347) rfl (z := (1 : Int32)) rfl ?_
                have hc347 : (1 : Int) = (1 : Int) := by decide
                refine g_icmpNo X43 hx hby at_347 (pc' := 350) (teq (show (1 : Int32) = (1 : Int32) from Int32.toInt_inj.mp hc347)).2 rfl ?_
                refine g_iconst X43 hx hby at_350 (pc' := 351) rfl (z := (1 : Int32)) rfl ?_
                refine g_goto X43 hx hby at_351 (pc' := 355) (by decide) (by decide) ?_
                refine g_istore X43 hx hby at_355 (pc' := 357) rfl (L' := #[.val (.int p1), .val (.int p2), .val (.int p3), .val (.ref b1), .val (.int md), .val (.int cc), .val (.int (1 : Int32)), .val (.int (25 : Int32))]) rfl ?_
                exact J357 ((1 : Int32), .val (.int (25 : Int32))) (by unfold own_ns; first | (rw [if_pos (by omega)]) | (rw [if_neg (by omega)]))
            · refine g_icmpNo X43 hx hby at_324 (pc' := 327) (flt (show ¬ (cc < (55296 : Int32)) from fun q => hc324 (Int32.lt_iff_toInt_lt.mp q))).2.2.1 rfl ?_
              refine g_iinc X43 hx hby at_327 (pc' := 330) rfl rfl (L' := #[.val (.int p1), .val (.int p2), .val (.int p3), .val (.ref b1), .val (.int md), .val (.int cc), .unset, .val (.int (26 : Int32))]) rfl ?_
              refine g_aloadN X43 hx hby at_330 (pc' := 331) rfl rfl rfl ?_
              refine g_iload X43 hx hby at_331 (pc' := 333) rfl rfl ?_
              refine Go.iaload X43 hx hZ e43 VB (k := 26) rfl (by decide) (hb hby at_333) ?_
              show Go p.tables e below s _ _ _ (T43.setTop (mkF m 334 #[.val (.int p1), .val (.int p2), .val (.int p3), .val (.ref b1), .val (.int md), .val (.int cc), .unset, .val (.int (26 : Int32))] [(.int (63744 : Int32))]))
              refine g_iload X43 hx hby at_334 (pc' := 336) rfl rfl ?_
              by_cases hc336 : cc.toInt < (63744 : Int)
              · refine g_icmpYes X43 hx hby at_336 (pc' := 342) (tlt (show cc < (63744 : Int32) from Int32.lt_iff_toInt_lt.mpr hc336)).2.2.1 (by decide) (by decide) ?_
                refine g_iload X43 hx hby at_342 (pc' := 344) rfl rfl ?_
                refine g_iconst X43 hx hby at_344 (pc' := 345) rfl (z := (1 : Int32)) rfl ?_
                refine g_iand X43 hx hby at_345 (pc' := 346) rfl (z := (0 : Int32)) rfl ?_
                refine g_iconst X43 hx hby at_346 (pc' := 347) rfl (z := (1 : Int32)) rfl ?_
                have hc347 : ¬ ((0 : Int) = (1 : Int)) := by decide
                refine g_icmpYes X43 hx hby at_347 (pc' := 354) (feq (show ¬ ((0 : Int32) = (1 : Int32)) from fun q => hc347 (congrArg Int32.toInt q))).2 (by decide) (by decide) ?_
                refine g_iconst X43 hx hby at_354 (pc' := 355) rfl (z := (0 : Int32)) rfl ?_
                refine g_istore X43 hx hby at_355 (pc' := 357) rfl (L' := #[.val (.int p1), .val (.int p2), .val (.int p3), .val (.ref b1), .val (.int md), .val (.int cc), .val (.int (0 : Int32)), .val (.int (26 : Int32))]) rfl ?_
                exact J357 ((0 : Int32), .val (.int (26 : Int32))) (by unfold own_ns; first | (rw [if_pos (by omega)]) | (rw [if_neg (by omega)]))
              · refine g_icmpNo X43 hx hby at_336 (pc' := 339) (flt (show ¬ (cc < (63744 : Int32)) from fun q => hc336 (Int32.lt_iff_toInt_lt.mp q))).2.2.1 rfl ?_
                refine g_iinc X43 hx hby at_339 (pc' := 342) rfl rfl (L' := #[.val (.int p1), .val (.int p2), .val (.int p3), .val (.ref b1), .val (.int md), .val (.int cc), .unset, .val (.int (27 : Int32))]) rfl ?_
                refine g_iload X43 hx hby at_342 (pc' := 344) rfl rfl ?_
                refine g_iconst X43 hx hby at_344 (pc' := 345) rfl (z := (1 : Int32)) rfl ?_
                refine g_iand X43 hx hby at_345 (pc' := 346) rfl (z := (1 : Int32)) rfl ?_
                refine g_iconst X43 hx hby at_346 (pc' := 347) rfl (z := (1 : Int32)) rfl ?_
                have hc347 : (1 : Int) = (1 : Int) := by decide
                refine g_icmpNo X43 hx hby at_347 (pc' := 350) (teq (show (1 : Int32) = (1 : Int32) from Int32.toInt_inj.mp hc347)).2 rfl ?_
                refine g_iconst X43 hx hby at_350 (pc' := 351) rfl (z := (1 : Int32)) rfl ?_
                refine g_goto X43 hx hby at_351 (pc' := 355) (by decide) (by decide) ?_
                refine g_istore X43 hx hby at_355 (pc' := 357) rfl (L' := #[.val (.int p1), .val (.int p2), .val (.int p3), .val (.ref b1), .val (.int md), .val (.int cc), .val (.int (1 : Int32)), .val (.int (27 : Int32))]) rfl ?_
                exact J357 ((1 : Int32), .val (.int (27 : Int32))) (by unfold own_ns; first | (rw [if_pos (by omega)]) | (rw [if_neg (by omega)]))
          · refine g_icmpNo X43 hx hby at_310 (pc' := 313) (flt (show ¬ (cc < (64976 : Int32)) from fun q => hc310 (Int32.lt_iff_toInt_lt.mp q))).2.2.1 rfl ?_
            refine g_iinc X43 hx hby at_313 (pc' := 316) rfl rfl (L' := #[.val (.int p1), .val (.int p2), .val (.int p3), .val (.ref b1), .val (.int md), .val (.int cc), .unset, .val (.int (28 : Int32))]) rfl ?_
            refine g_aloadN X43 hx hby at_316 (pc' := 317) rfl rfl rfl ?_
            refine g_iload X43 hx hby at_317 (pc' := 319) rfl rfl ?_
            refine g_iconst X43 hx hby at_319 (pc' := 320) rfl (z := (1 : Int32)) rfl ?_
            refine g_iadd X43 hx hby at_320 (pc' := 321) rfl (z := (29 : Int32)) rfl ?_
            refine Go.iaload X43 hx hZ e43 VB (k := 29) rfl (by decide) (hb hby at_321) ?_
            show Go p.tables e below s _ _ _ (T43.setTop (mkF m 322 #[.val (.int p1), .val (.int p2), .val (.int p3), .val (.ref b1), .val (.int md), .val (.int cc), .unset, .val (.int (28 : Int32))] [(.int (65534 : Int32))]))
            refine g_iload X43 hx hby at_322 (pc' := 324) rfl rfl ?_
            by_cases hc324 : cc.toInt < (65534 : Int)
            · refine g_icmpYes X43 hx hby at_324 (pc' := 330) (tlt (show cc < (65534 : Int32) from Int32.lt_iff_toInt_lt.mpr hc324)).2.2.1 (by decide) (by decide) ?_
              refine g_aloadN X43 hx hby at_330 (pc' := 331) rfl rfl rfl ?_
              refine g_iload X43 hx hby at_331 (pc' := 333) rfl rfl ?_
              refine Go.iaload X43 hx hZ e43 VB (k := 28) rfl (by decide) (hb hby at_333) ?_
              show Go p.tables e below s _ _ _ (T43.setTop (mkF m 334 #[.val (.int p1), .val (.int p2), .val (.int p3), .val (.ref b1), .val (.int md), .val (.int cc), .unset, .val (.int (28 : Int32))] [(.int (65008 : Int32))]))
              refine g_iload X43 hx hby at_334 (pc' := 336) rfl rfl ?_
              by_cases hc336 : cc.toInt < (65008 : Int)
              · refine g_icmpYes X43 hx hby at_336 (pc' := 342) (tlt (show cc < (65008 : Int32) from Int32.lt_iff_toInt_lt.mpr hc336)).2.2.1 (by decide) (by decide) ?_
                refine g_iload X43 hx hby at_342 (pc' := 344) rfl rfl ?_
                refine g_iconst X43 hx hby at_344 (pc' := 345) rfl (z := (1 : Int32)) rfl ?_
                refine g_iand X43 hx hby at_345 (pc' := 346) rfl (z := (0 : Int32)) rfl ?_
                refine g_iconst X43 hx hby at_346 (pc' := 347) rfl (z := (1 : Int32)) rfl ?_
                have hc347 : ¬ ((0 : Int) = (1 : Int)) := by decide
                refine g_icmpYes X43 hx hby at_347 (pc' := 354) (feq (show ¬ ((0 : Int32) = (1 : Int32)) from fun q => hc347 (congrArg Int32.toInt q))).2 (by decide) (by decide) ?_
                refine g_iconst X43 hx hby at_354 (pc' := 355) rfl (z := (0 : Int32)) rfl ?_
                refine g_istore X43 hx hby at_355 (pc' := 357) rfl (L' := #[.val (.int p1), .val (.int p2), .val (.int p3), .val (.ref b1), .val (.int md), .val (.int cc), .val (.int (0 : Int32)), .val (.int (28 : Int32))]) rfl ?_
                exact J357 ((0 : Int32), .val (.int (28 : Int32))) (by unfold own_ns; first | (rw [if_pos (by omega)]) | (rw [if_neg (by omega)]))
              · refine g_icmpNo X43 hx hby at_336 (pc' := 339) (flt (show ¬ (cc < (65008 : Int32)) from fun q => hc336 (Int32.lt_iff_toInt_lt.mp q))).2.2.1 rfl ?_
                refine g_iinc X43 hx hby at_339 (pc' := 342) rfl rfl (L' := #[.val (.int p1), .val (.int p2), .val (.int p3), .val (.ref b1), .val (.int md), .val (.int cc), .unset, .val (.int (29 : Int32))]) rfl ?_
                refine g_iload X43 hx hby at_342 (pc' := 344) rfl rfl ?_
                refine g_iconst X43 hx hby at_344 (pc' := 345) rfl (z := (1 : Int32)) rfl ?_
                refine g_iand X43 hx hby at_345 (pc' := 346) rfl (z := (1 : Int32)) rfl ?_
                refine g_iconst X43 hx hby at_346 (pc' := 347) rfl (z := (1 : Int32)) rfl ?_
                have hc347 : (1 : Int) = (1 : Int) := by decide
                refine g_icmpNo X43 hx hby at_347 (pc' := 350) (teq (show (1 : Int32) = (1 : Int32) from Int32.toInt_inj.mp hc347)).2 rfl ?_
                refine g_iconst X43 hx hby at_350 (pc' := 351) rfl (z := (1 : Int32)) rfl ?_
                refine g_goto X43 hx hby at_351 (pc' := 355) (by decide) (by decide) ?_
                refine g_istore X43 hx hby at_355 (pc' := 357) rfl (L' := #[.val (.int p1), .val (.int p2), .val (.int p3), .val (.ref b1), .val (.int md), .val (.int cc), .val (.int (1 : Int32)), .val (.int (29 : Int32))]) rfl ?_
                exact J357 ((1 : Int32), .val (.int (29 : Int32))) (by unfold own_ns; first | (rw [if_pos (by omega)]) | (rw [if_neg (by omega)]))
            · refine g_icmpNo X43 hx hby at_324 (pc' := 327) (flt (show ¬ (cc < (65534 : Int32)) from fun q => hc324 (Int32.lt_iff_toInt_lt.mp q))).2.2.1 rfl ?_
              refine g_iinc X43 hx hby at_327 (pc' := 330) rfl rfl (L' := #[.val (.int p1), .val (.int p2), .val (.int p3), .val (.ref b1), .val (.int md), .val (.int cc), .unset, .val (.int (30 : Int32))]) rfl ?_
              refine g_aloadN X43 hx hby at_330 (pc' := 331) rfl rfl rfl ?_
              refine g_iload X43 hx hby at_331 (pc' := 333) rfl rfl ?_
              refine Go.iaload X43 hx hZ e43 VB (k := 30) rfl (by decide) (hb hby at_333) ?_
              show Go p.tables e below s _ _ _ (T43.setTop (mkF m 334 #[.val (.int p1), .val (.int p2), .val (.int p3), .val (.ref b1), .val (.int md), .val (.int cc), .unset, .val (.int (30 : Int32))] [(.int (65536 : Int32))]))
              refine g_iload X43 hx hby at_334 (pc' := 336) rfl rfl ?_
              by_cases hc336 : cc.toInt < (65536 : Int)
              · refine g_icmpYes X43 hx hby at_336 (pc' := 342) (tlt (show cc < (65536 : Int32) from Int32.lt_iff_toInt_lt.mpr hc336)).2.2.1 (by decide) (by decide) ?_
                refine g_iload X43 hx hby at_342 (pc' := 344) rfl rfl ?_
                refine g_iconst X43 hx hby at_344 (pc' := 345) rfl (z := (1 : Int32)) rfl ?_
                refine g_iand X43 hx hby at_345 (pc' := 346) rfl (z := (0 : Int32)) rfl ?_
                refine g_iconst X43 hx hby at_346 (pc' := 347) rfl (z := (1 : Int32)) rfl ?_
                have hc347 : ¬ ((0 : Int) = (1 : Int)) := by decide
                refine g_icmpYes X43 hx hby at_347 (pc' := 354) (feq (show ¬ ((0 : Int32) = (1 : Int32)) from fun q => hc347 (congrArg Int32.toInt q))).2 (by decide) (by decide) ?_
                refine g_iconst X43 hx hby at_354 (pc' := 355) rfl (z := (0 : Int32)) rfl ?_
                refine g_istore X43 hx hby at_355 (pc' := 357) rfl (L' := #[.val (.int p1), .val (.int p2), .val (.int p3), .val (.ref b1), .val (.int md), .val (.int cc), .val (.int (0 : Int32)), .val (.int (30 : Int32))]) rfl ?_
                exact J357 ((0 : Int32), .val (.int (30 : Int32))) (by unfold own_ns; first | (rw [if_pos (by omega)]) | (rw [if_neg (by omega)]))
              · refine g_icmpNo X43 hx hby at_336 (pc' := 339) (flt (show ¬ (cc < (65536 : Int32)) from fun q => hc336 (Int32.lt_iff_toInt_lt.mp q))).2.2.1 rfl ?_
                refine g_iinc X43 hx hby at_339 (pc' := 342) rfl rfl (L' := #[.val (.int p1), .val (.int p2), .val (.int p3), .val (.ref b1), .val (.int md), .val (.int cc), .unset, .val (.int (31 : Int32))]) rfl ?_
                refine g_iload X43 hx hby at_342 (pc' := 344) rfl rfl ?_
                refine g_iconst X43 hx hby at_344 (pc' := 345) rfl (z := (1 : Int32)) rfl ?_
                refine g_iand X43 hx hby at_345 (pc' := 346) rfl (z := (1 : Int32)) rfl ?_
                refine g_iconst X43 hx hby at_346 (pc' := 347) rfl (z := (1 : Int32)) rfl ?_
                have hc347 : (1 : Int) = (1 : Int) := by decide
                refine g_icmpNo X43 hx hby at_347 (pc' := 350) (teq (show (1 : Int32) = (1 : Int32) from Int32.toInt_inj.mp hc347)).2 rfl ?_
                refine g_iconst X43 hx hby at_350 (pc' := 351) rfl (z := (1 : Int32)) rfl ?_
                refine g_goto X43 hx hby at_351 (pc' := 355) (by decide) (by decide) ?_
                refine g_istore X43 hx hby at_355 (pc' := 357) rfl (L' := #[.val (.int p1), .val (.int p2), .val (.int p3), .val (.ref b1), .val (.int md), .val (.int cc), .val (.int (1 : Int32)), .val (.int (31 : Int32))]) rfl ?_
                exact J357 ((1 : Int32), .val (.int (31 : Int32))) (by unfold own_ns; first | (rw [if_pos (by omega)]) | (rw [if_neg (by omega)]))
    · refine g_icmpNo X43 hx hby at_260 (pc' := 263) (flt (show ¬ (cc < (983040 : Int32)) from fun q => hc260 (Int32.lt_iff_toInt_lt.mp q))).1 rfl ?_
      refine g_iconst X43 hx hby at_263 (pc' := 264) rfl (z := (0 : Int32)) rfl ?_
      refine g_istore X43 hx hby at_264 (pc' := 266) rfl (L' := #[.val (.int p1), .val (.int p2), .val (.int p3), .val (.ref b1), .val (.int md), .val (.int cc), .val (.int (0 : Int32)), .unset]) rfl ?_
      refine g_goto X43 hx hby at_266 (pc' := 357) (by decide) (by decide) ?_
      exact J357 ((0 : Int32), .unset) (by unfold own_ns; first | (rw [if_pos (by omega)]) | (rw [if_neg (by omega)]))
  intro J254
  refine g_iloadN X43 hx hby at_208 (pc' := 209) rfl rfl ?_
  refine g_iconst X43 hx hby at_209 (pc' := 210) rfl (z := (3 : Int32)) rfl ?_
  refine g_iand X43 hx hby at_210 (pc' := 211) rfl rfl ?_
  show Go p.tables e below s _ _ _ (T43.setTop (mkF m 211 #[.val (.int p1), .val (.int p2), .val (.int p3), .val (.ref b1), .unset, .unset, .unset, .unset] [(.int (p2 &&& (3 : Int32)))]))
  generalize hv45 : (p2 &&& (3 : Int32)) = v45
  refine g_istore X43 hx hby at_211 (pc' := 213) rfl (L' := #[.val (.int p1), .val (.int p2), .val (.int p3), .val (.ref b1), .val (.int v45), .unset, .unset, .unset]) rfl ?_
  refine g_iload X43 hx hby at_213 (pc' := 215) rfl rfl ?_
  by_cases hc215 : v45.toInt = (0 : Int)
  · refine g_ifNo X43 hx hby at_215 (pc' := 218) (teq (show v45 = (0 : Int32) from Int32.toInt_inj.mp hc215)).2 rfl ?_
    refine g_iloadN X43 hx hby at_218 (pc' := 219) rfl rfl ?_
    refine g_istore X43 hx hby at_219 (pc' := 221) rfl (L' := #[.val (.int p1), .val (.int p2), .val (.int p3), .val (.ref b1), .val (.int v45), .val (.int p1), .unset, .unset]) rfl ?_
    refine g_goto X43 hx hby at_221 (pc' := 254) (by decide) (by decide) ?_
    exact J254 (v45, p1) (trivial)
  · refine g_ifYes X43 hx hby at_215 (pc' := 224) (feq (show ¬ (v45 = (0 : Int32)) from fun q => hc215 (congrArg Int32.toInt q))).2 (by decide) (by decide) ?_
    refine g_iload X43 hx hby at_224 (pc' := 226) rfl rfl ?_
    refine g_iconst X43 hx hby at_226 (pc' := 227) rfl (z := (1 : Int32)) rfl ?_
    by_cases hc227 : v45.toInt = (1 : Int)
    · refine g_icmpNo X43 hx hby at_227 (pc' := 230) (teq (show v45 = (1 : Int32) from Int32.toInt_inj.mp hc227)).2 rfl ?_
      refine g_iloadN X43 hx hby at_230 (pc' := 231) rfl rfl ?_
      refine g_ldcI X43 hx hby hZ hown (wi hw 20 rfl) at_231 (pc' := 233) rfl ?_
      refine g_iand X43 hx hby at_233 (pc' := 234) rfl rfl ?_
      show Go p.tables e below s _ _ _ (T43.setTop (mkF m 234 #[.val (.int p1), .val (.int p2), .val (.int p3), .val (.ref b1), .val (.int v45), .unset, .unset, .unset] [(.int (p1 &&& (2097151 : Int32)))]))
      generalize hv46 : (p1 &&& (2097151 : Int32)) = v46
      refine g_istore X43 hx hby at_234 (pc' := 236) rfl (L' := #[.val (.int p1), .val (.int p2), .val (.int p3), .val (.ref b1), .val (.int v45), .val (.int v46), .unset, .unset]) rfl ?_
      refine g_goto X43 hx hby at_236 (pc' := 254) (by decide) (by decide) ?_
      exact J254 (v45, v46) (trivial)
    · refine g_icmpYes X43 hx hby at_227 (pc' := 239) (feq (show ¬ (v45 = (1 : Int32)) from fun q => hc227 (congrArg Int32.toInt q))).2 (by decide) (by decide) ?_
      refine g_aloadN X43 hx hby at_239 (pc' := 240) rfl rfl rfl ?_
      refine g_iloadN X43 hx hby at_240 (pc' := 241) rfl rfl ?_
      refine g_ldcI X43 hx hby hZ hown (wi hw 8 rfl) at_241 (pc' := 243) rfl ?_
      refine g_iand X43 hx hby at_243 (pc' := 244) rfl rfl ?_
      refine g_bipush X43 hx hby at_244 (pc' := 246) rfl (z := (32 : Int32)) rfl ?_
      refine g_irem X43 hx hby at_246 (pc' := 247) rfl (by decide) rfl ?_
      obtain ⟨ki, hki, eki⟩ := own_idx p3
      refine Go.iaload X43 hx hZ e43 VB (k := ki) eki hki (hb hby at_247) ?_
      show Go p.tables e below s _ _ _ (T43.setTop (mkF m 248 #[.val (.int p1), .val (.int p2), .val (.int p3), .val (.ref b1), .val (.int v45), .unset, .unset, .unset] [(.int (own_b ki))]))
      refine g_iloadN X43 hx hby at_248 (pc' := 249) rfl rfl ?_
      refine g_iconst X43 hx hby at_249 (pc' := 250) rfl (z := (3 : Int32)) rfl ?_
      refine g_irem X43 hx hby at_250 (pc' := 251) rfl (by decide) rfl ?_
      refine g_iadd X43 hx hby at_251 (pc' := 252) rfl rfl ?_
      show Go p.tables e below s _ _ _ (T43.setTop (mkF m 252 #[.val (.int p1), .val (.int p2), .val (.int p3), .val (.ref b1), .val (.int v45), .unset, .unset, .unset] [(.int ((own_b ki) + (p1 % (3 : Int32))))]))
      generalize hv47 : ((own_b ki) + (p1 % (3 : Int32))) = v47
      refine g_istore X43 hx hby at_252 (pc' := 254) rfl (L' := #[.val (.int p1), .val (.int p2), .val (.int p3), .val (.ref b1), .val (.int v45), .val (.int v47), .unset, .unset]) rfl ?_
      exact J254 (v45, v47) (trivial)
set_option maxRecDepth 65536 in
set_option maxHeartbeats 40000000 in
theorem comes_1 {Post : Tables → Env → Array Value → State → Outcome → State → Prop} (hpost : ∀ tb e args s v u, (limb_1_1.after args s (.returned v) u = true ∧ limb_1_2.after args s (.returned v) u = true) → FrameEnd s (.returned v) u (Jvm.fieldLocs frame_1_writes args s ++ Jvm.arrayLocs frame_1_arrays args s ++ Jvm.staticLocs frame_1_statics s) 16 128 → Post tb e args s (.returned v) u) :
    ArmFor flags0 classFile x code maxLocals ret World_1 tables_1 room_1 Calls_1 rest_1 Pre_1 Post := by
  intro l hfl _ _ p e ha hc hk s m args below hf hA hF happ hP
  obtain ⟨hcalls, hrest, hpre⟩ := hP
  obtain ⟨-, -, -, hnamed, -, -, -, hat⟩ := (Spec.applies_iff hf).mp happ
  obtain ⟨hg, hn⟩ := and_e (Cond.before_iff.mp (show (Jvm.Cond.and given_1 narrow_1).before args s = true from hpre))
  obtain ⟨g0, r0⟩ := and_e hg
  obtain ⟨g1, r1⟩ := and_e r0
  obtain ⟨g2, g3⟩ := and_e r1
  obtain ⟨w0, w1, w2, rfl⟩ : ∃ w0 w1 w2 : Value, args = #[w0, w1, w2] := by
    have hs : args.size = 3 := by simpa [Cond.value, given_1] using g0
    obtain ⟨L⟩ := args
    match L, hs with
    | [w0, w1, w2], _ => exact ⟨w0, w1, w2, rfl⟩
  have hw := fun d (hd : d ∈ tables_1) => atoms_spec (ws := Jvm.Cond.code x code maxLocals ret :: tables_1) hat d (List.mem_cons_of_mem _ hd)
  have hfit : Fit s := fun {y c} hc i hi => by
    obtain ⟨ha, rfl⟩ := Array.getElem?_eq_some_iff.mp hc
    have q := List.all_eq_true.mp ((Array.all_eq_true_iff_forall_mem.mp hF) _ (Array.getElem_mem ha)) i (List.mem_range.mpr hi)
    simpa [Array.getElem?_eq_getElem hi] using q
  obtain ⟨i0, ei0⟩ := is_v g1
  obtain rfl : w0 = (.int i0) := Option.some.inj ei0
  obtain ⟨i1, ei1⟩ := is_v g2
  obtain rfl : w1 = (.int i1) := Option.some.inj ei1
  obtain ⟨i2, ei2⟩ := is_v g3
  obtain rfl : w2 = (.int i2) := Option.some.inj ei2
  obtain ⟨n, o, h1, h2, h3, _, L, rfl, ⟨rfl, N⟩, hq⟩ := rm0 l s _ hw tables_1 i0 i1 i2 s.heap s.heap.size (Nat.le_refl _)  p e ha hc hk s m _ below hf ((Spec.applies_iff_loose hf).mp happ).1 ⟨rfl, State.Warmed39.refl s, rfl⟩ trivial
  refine ⟨n, _, h1, h2, h3, hpost _ _ _ _ _ _ ⟨Cond.after_iff.mpr rfl, Cond.after_iff.mpr (eq_i res_at (Term.int_eval (1)) rfl)⟩ ⟨hq.1, hq.2.1, (hq.2.2.sift fun y hy => Or.inr (N y hy)).mono (by decide) (by decide)⟩⟩
theorem main_1_1 : Claimed_1_1 := comes_1 fun _ _ _ _ _ _ h hF => ⟨h.1, hF⟩
theorem main_1_2 : Claimed_1_2 := comes_1 fun _ _ _ _ _ _ h hF => ⟨h.2, hF⟩
end Jvm.Pilot.@@N@@
namespace Jvm.Pilot.@@N@@
open Jvm Jvm.ClassFile Sem Op Lib Jvm.Free Jvm.Stand Jvm.Pilot.@@N@@.Jvm.D
/-! MADE BY PROGRAM (witnessworld.py) out of the Statement's table words and the real class files: 9 classes; the members and pool entries that the words name. The judged class is class 1, her method 1. -/
namespace start1
open Jvm.ClassFile
def u (s : String) : CpInfo := .utf8 (stringToUtf16 s)
/-- a pool by its gaps: so many unusable entries, then the entry; so many at the end -/
def gap : Nat → List CpInfo → List CpInfo
  | 0, r => r
  | n + 1, r => .unusable :: gap n r
def poolList (es : List (Nat × CpInfo)) (last : Nat) : List CpInfo := es.foldr (fun e r => gap e.1 (e.2 :: r)) (gap last [])
def pool (es : List (Nat × CpInfo)) (last : Nat) : Array CpInfo := ⟨poolList es last⟩
def fileOf (pool : Array CpInfo) (this : Nat) (attrs : Array Attribute := #[]) (ms : Array MethodInfo := #[]) (fl : Nat := 33) (sup : Nat := 0) (ifs : Array Nat := #[]) (fds : Array FieldInfo := #[]) : ClassFile where
  minorVersion := 0
  majorVersion := 65
  constantPool := pool
  accessFlags := fl
  thisClass := this
  superClass := sup
  interfaces := ifs
  fields := fds
  methods := ms
  attributes := attrs
def plain (name : String) (sup : Option ClassId) : Class where
  name := name
  kind := .ordinary
  loader := none
  accessFlags := 33
  super := sup
  interfaces := #[]
  cf := none
  fields := #[]
  methods := #[]
  instanceTypes := #[]
  staticTypes := #[]
  resolved := #[]
  callSites := []
  init := .initialized
  statics := none
  mirror := none

def pool0 : Array CpInfo := pool [(5, u "<init>"), (0, u "()V"), (1, .class_ 10), (1, u "java/lang/Object")] 113

def k0m0 : Method := { name := "<init>", desc := "()V", sig := { parameters := [], returnType := none }, accessFlags := 1, code := none }
/-- java/lang/Object -/
def k0 : Class := { plain "java/lang/Object" none with
  accessFlags := 33
  interfaces := #[]
  cf := some (fileOf pool0 8 #[] #[{ accessFlags := 1, nameIndex := 5, descriptorIndex := 6, attributes := #[] }] 33 0 #[] #[])
  fields := #[]
  methods := #[k0m0]
  instanceTypes := #[]
  staticTypes := #[]
  resolved := Array.replicate 124 none
  statics := none }

def pool1 : Array CpInfo := pool [(2, .class_ 4), (1, u "java/lang/Object"), (0, u "<init>"), (0, u "()V"), (0, .integer 55296), (0, .integer 63744), (0, .integer 64976), (0, .integer 65008), (0, .integer 65534), (0, .integer 65536), (0, .integer 983040), (0, .integer 2097151), (0, .integer 2147483647), (0, .methodref 17 18), (0, .class_ 19), (0, .nameAndType 20 21), (0, u "com/example/validated_xml_store/validatedxmlstore/XmlNames"), (0, u "isNameStartChar"), (0, u "(I)Z"), (0, .class_ 23), (0, u "com/example/validated_xml_store/validatedxmlstore/XmlNamesIsNameStartCharPinLaw"), (2, u "law"), (0, u "(III)Z")] 5

def k1m0 : Method := { name := "<init>", desc := "()V", sig := { parameters := [], returnType := none }, accessFlags := 2, code := none }
def k1c1 : Code := { maxStack := 4, maxLocals := 8, code := code, exceptionTable := #[], attributes := #[] }
def k1m1 : Method := { name := "law", desc := "(III)Z", sig := { parameters := [.int, .int, .int], returnType := some .boolean }, accessFlags := 9, code := some k1c1 }
/-- com/example/validated_xml_store/validatedxmlstore/XmlNamesIsNameStartCharPinLaw -/
def k1 : Class := { plain "com/example/validated_xml_store/validatedxmlstore/XmlNamesIsNameStartCharPinLaw" (some 0) with
  accessFlags := 49
  interfaces := #[]
  cf := some (fileOf pool1 22 #[] #[{ accessFlags := 2, nameIndex := 5, descriptorIndex := 6, attributes := #[] }, { accessFlags := 9, nameIndex := 26, descriptorIndex := 27, attributes := #[] }] 49 2 #[] #[])
  fields := #[]
  methods := #[k1m0, k1m1]
  instanceTypes := #[]
  staticTypes := #[]
  resolved := Array.replicate 33 none
  statics := none }

def pool2 : Array CpInfo := pool [(2, .class_ 4), (1, u "java/lang/Object"), (0, u "<init>"), (0, u "()V"), (25, .class_ 34), (1, u "com/example/validated_xml_store/validatedxmlstore/XmlNames"), (0, u "isNameStartChar"), (0, u "(I)Z"), (5, .integer 55295), (0, .integer 63744), (0, .integer 64975), (0, .integer 65008), (0, .integer 65533), (0, .integer 65536), (0, .integer 983039)] 34

def k2m0 : Method := { name := "<init>", desc := "()V", sig := { parameters := [], returnType := none }, accessFlags := 2, code := none }
def k2c1 : Code := { maxStack := 2, maxLocals := 1, code := prog_99_method_5_code, exceptionTable := #[], attributes := #[] }
def k2m1 : Method := { name := "isNameStartChar", desc := "(I)Z", sig := { parameters := [.int], returnType := some .boolean }, accessFlags := 8, code := some k2c1 }
/-- com/example/validated_xml_store/validatedxmlstore/XmlNames -/
def k2 : Class := { plain "com/example/validated_xml_store/validatedxmlstore/XmlNames" (some 0) with
  accessFlags := 33
  interfaces := #[]
  cf := some (fileOf pool2 32 #[] #[{ accessFlags := 2, nameIndex := 5, descriptorIndex := 6, attributes := #[] }, { accessFlags := 8, nameIndex := 35, descriptorIndex := 36, attributes := #[] }] 33 2 #[] #[])
  fields := #[]
  methods := #[k2m0, k2m1]
  instanceTypes := #[]
  staticTypes := #[]
  resolved := Array.replicate 83 none
  statics := none }

def pool3 : Array CpInfo := pool [(1, u "java/lang/Cloneable"), (0, .class_ 1), (0, u "java/lang/Object"), (0, .class_ 3)] 3

/-- java/lang/Cloneable -/
def k3 : Class := { plain "java/lang/Cloneable" (some 0) with
  accessFlags := 1537
  interfaces := #[]
  cf := some (fileOf pool3 2 #[] #[] 1537 4 #[] #[])
  fields := #[]
  methods := #[]
  instanceTypes := #[]
  staticTypes := #[]
  resolved := Array.replicate 8 none
  statics := none }

def pool4 : Array CpInfo := pool [(1, u "java/io/Serializable"), (0, .class_ 1), (0, u "java/lang/Object"), (0, .class_ 3)] 3

/-- java/io/Serializable -/
def k4 : Class := { plain "java/io/Serializable" (some 0) with
  accessFlags := 1537
  interfaces := #[]
  cf := some (fileOf pool4 2 #[] #[] 1537 4 #[] #[])
  fields := #[]
  methods := #[]
  instanceTypes := #[]
  staticTypes := #[]
  resolved := Array.replicate 8 none
  statics := none }

/-- the primitive byte -/
def k5 : Class := { plain "byte" none with kind := .primitive 'B', accessFlags := 0x411 }
/-- [B -/
def k6 : Class := { plain "[B" (some 0) with kind := .array 5 .byte, interfaces := #[3, 4], accessFlags := 1041 }

/-- the primitive int -/
def k7 : Class := { plain "int" none with kind := .primitive 'I', accessFlags := 0x411 }
/-- [I -/
def k8 : Class := { plain "[I" (some 0) with kind := .array 7 .int, interfaces := #[3, 4], accessFlags := 1041 }

def heap : Heap := #[]
def classes : Array Class := #[k0, k1, k2, k3, k4, k5, k6, k7, k8]
def interned : List (Array UInt16 × Addr) := []
def slotsUsed : Nat := 0
def theMethod : MethodId := ⟨1, 1⟩
def args0 : Array Value := #[.int 5, .int 7, .int 9]
def aboutOver (below : List Frame) : State where
  vm := { classes := classes, interned := interned.toArray }
  heap := heap
  slotsUsed := slotsUsed
  threads := #[{ frames := .invoking theMethod args0 :: below }]
def below0 : List Frame := [.native { method := ⟨0, 0⟩, args := #[] }]
def about1 : State := aboutOver below0
def p0 : Program := .bare "" "" ""
def e0 : Env := launch0.env 0 0 0
theorem w_frames : about1.frames = Frame.invoking theMethod args0 :: below0 := rfl
set_option maxRecDepth 65536 in
theorem w_args : argsFit about1.vm theMethod args0 = true := by decide +kernel
set_option maxRecDepth 65536 in
theorem w_heap : heapFits about1 = true := by decide +kernel
set_option maxRecDepth 65536 in
theorem w_runnable : about1.curStatus? = some .runnable := by decide +kernel
set_option maxRecDepth 65536 in
theorem w_alone : about1.alone = true := by decide +kernel
set_option maxRecDepth 65536 in
theorem w_named : about1.methodNamed? x = some theMethod := by decide +kernel
set_option maxRecDepth 65536 in
theorem w_hears : about1.hears theMethod below0 = true := by decide +kernel
set_option maxRecDepth 65536 in
theorem w_ripe : about1.ripe theMethod args0 below0 = true := by decide +kernel
theorem w_running : about1.status = .running := rfl
set_option maxRecDepth 65536 in
theorem w_room : about1.hasRoom e0.platform room_1 = true :=
  launch0.hasRoom_least _ room_1 (by decide +kernel) (by decide +kernel) (by decide +kernel) (by decide +kernel) (by decide +kernel) (by decide +kernel)
theorem allAtoms_all (ts : List Jvm.Cond) (a : Array Jvm.Value) (st : Jvm.State) : (allAtoms ts).before a st = ts.all (fun c => c.before a st) := by
  induction ts with
  | nil => rfl
  | cons c t ih =>
    show (Jvm.Cond.and c (allAtoms t)).before a st = _
    rw [Jvm.Cond.before_and, ih, List.all_cons]
def words1 : List Jvm.Cond := Jvm.Cond.code x code maxLocals ret :: tables_1
/-- a 'code' word, met by the world's own term for the bytes: nothing is compared byte by byte -/
theorem code_word {y : MethodName} {bytes : ByteArray} {mx : Nat} {rt : Option FieldType} {a : Array Value} {s : State} {m : MethodId} {meth : Method} {c : Code} (h1 : s.methodNamed? y = some m) (h2 : s.vm.method? m = some meth) (h3 : meth.code = some c) (h4 : c.code = bytes)
    (h5 : (c.maxLocals == mx && c.exceptionTable.isEmpty && decide (c.maxStack ≤ mostOperands) && decide (meth.sig.returnType = rt) && !meth.locks && decide (parseMethodDescriptor y.desc = some meth.sig)) = true) : (Jvm.Cond.code y bytes mx rt).before a s = true := by
  simp only [Bool.and_eq_true, beq_iff_eq, Bool.not_eq_true', decide_eq_true_eq] at h5
  obtain ⟨⟨⟨⟨⟨g1, g2⟩, g3⟩, g4⟩, g5⟩, g6⟩ := h5
  simp [Cond.before, Cond.holds, Cond.value, h1, h2, h3, h4, g1, g2, g3, g4, g5, g6]
def isCode : Jvm.Cond → Bool
  | .code _ _ _ _ => true
  | _ => false
theorem all_split {L : List Jvm.Cond} {P : Jvm.Cond → Bool} (h1 : L.all (fun c => isCode c || P c) = true) (h2 : ∀ c ∈ L.filter isCode, P c = true) : L.all P = true := by
  refine List.all_eq_true.mpr fun c hc => ?_
  have h := List.all_eq_true.mp h1 c hc
  rcases Bool.eq_false_or_eq_true (isCode c) with hi | hi
  · exact h2 c (List.mem_filter.mpr ⟨hc, hi⟩)
  · simpa [hi] using h
set_option maxRecDepth 65536 in
theorem w_c0 : (Jvm.Cond.code x code maxLocals ret).before args0 about1 = true := code_word (m := ⟨1, 1⟩) (meth := k1m1) (c := k1c1) (by decide +kernel) rfl rfl rfl (by decide +kernel)
set_option maxRecDepth 65536 in
theorem w_c1 : (Jvm.Cond.code ({ cls := "com/example/validated_xml_store/validatedxmlstore/XmlNames", name := "isNameStartChar", desc := "(I)Z" } : Jvm.MethodName) prog_99_method_5_code (1 : Nat) (Option.some Jvm.ClassFile.FieldType.boolean)).before args0 about1 = true := code_word (m := ⟨2, 1⟩) (meth := k2m1) (c := k2c1) (by decide +kernel) rfl rfl rfl (by decide +kernel)
def codes1 : List Jvm.Cond := [Jvm.Cond.code x code maxLocals ret, Jvm.Cond.code ({ cls := "com/example/validated_xml_store/validatedxmlstore/XmlNames", name := "isNameStartChar", desc := "(I)Z" } : Jvm.MethodName) prog_99_method_5_code (1 : Nat) (Option.some Jvm.ClassFile.FieldType.boolean)]
set_option maxRecDepth 65536 in
theorem codes_eq : words1.filter isCode = codes1 := rfl
theorem w_codes : ∀ c ∈ words1.filter isCode, c.before args0 about1 = true := by
  rw [codes_eq]
  intro c hc
  simp only [codes1, List.mem_cons, List.not_mem_nil, or_false] at hc
  rcases hc with rfl | rfl
  · exact w_c0
  · exact w_c1
set_option maxRecDepth 65536 in
theorem w_t1 : words1.all (fun c => isCode c || c.before args0 about1) = true := by decide +kernel
theorem w_tables : (allAtoms (Jvm.Cond.code x code maxLocals ret :: tables_1)).before args0 about1 = true := by
  rw [allAtoms_all]
  show words1.all (fun c => c.before args0 about1) = true
  refine all_split ?_ w_codes
  rw [w_t1]
set_option maxRecDepth 65536 in
theorem w_case : (Jvm.Cond.and given_1 narrow_1).before args0 about1 = true := by decide +kernel
theorem w_applies : (headSpec (Jvm.Cond.code x code maxLocals ret :: tables_1) room_1).applies x e0.platform about1 = true :=
  (Spec.applies_iff w_frames).mpr ⟨w_running, w_runnable, w_alone, w_named, w_hears, w_ripe, w_room, w_tables⟩
theorem atStart : AtStart classFile x code maxLocals ret World_1 tables_1 room_1 Calls_1 rest_1 Pre_1 launch0 p0 e0 about1 theMethod args0 below0 :=
  ⟨lists_1, trivial, launch0.admits_env _ _ _, launch0.least_env, fairChoices_fair.cas, fairChoices_fair.clock, w_frames, w_args, w_heap, w_applies, trivial, trivial, w_case⟩
end start1
theorem witness_1 : WitnessClaimed_1 := ⟨start1.p0, start1.e0, start1.about1, start1.theMethod, start1.args0, start1.below0, start1.atStart⟩
end Jvm.Pilot.@@N@@
