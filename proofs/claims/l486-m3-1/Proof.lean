import JvmDerived
import JvmDerived.Pilot.@@N@@Statement
import JvmDerived.Pilot.@@N@@Code
set_option linter.unusedVariables false
set_option linter.unusedSimpArgs false
namespace Jvm.OwnKit
open Sem ClassFile Op Lib Jvm.Stand Jvm.Free Jvm.LawKit Jvm.RoadKit
theorem irem_mod (x y : Int32) : x - x / y * y = x % y := by
  have hm : (x % y).toInt = x.toInt - x.toInt.tdiv y.toInt * y.toInt := by
    rw [Int32.toInt_mod, Int.tmod_def, Int.mul_comm]
  have hb := Int32.toInt_lt (x % y)
  have hl := Int32.le_toInt (x % y)
  have e : (x - x / y * y).toInt = (x % y).toInt.bmod (2 ^ 32) := by
    rw [hm, Int32.toInt_sub, Int32.toInt_mul, Int32.toInt_div, Int.sub_bmod_bmod, Int.sub_eq_add_neg, Int.sub_eq_add_neg]
    rw [← Int.add_bmod_bmod, ← Int.add_bmod_bmod (y := -(x.toInt.tdiv y.toInt * y.toInt))]
    congr 2
    rw [← Int.neg_mul, ← Int.neg_mul]
    rw [← Int.bmod_mul_bmod, Int.bmod_neg_bmod, Int.bmod_mul_bmod]
  apply Int32.toInt_inj.mp
  rw [e]
  exact Int.bmod_eq_of_le_mul_two (by omega) (by omega)
/-- what a body's end says -/
def Done (s : State) (below : List Frame) (Q : Option Value → Heap → List Loc → Prop) (C S : Nat) (t : State) (o : Outcome) : Prop :=
  t.status = .running ∧ Ended t below o ∧ ∃ v L, o = .returned v ∧ Q v t.heap L ∧ FrameEnd s o t L C S
/-- from here the run ends as asked -/
def Go (tb : Tables) (e : Env) (below : List Frame) (s : State) (Q : Option Value → Heap → List Loc → Prop) (C S : Nat) (A : State) : Prop :=
  ∃ t o, Steps tb e below A t ∧ Done s below Q C S t o
theorem Go.of {tb : Tables} {e : Env} {below : List Frame} {s : State} {Q : Option Value → Heap → List Loc → Prop} {C S : Nat} {A B : State}
    (g : ∀ t, Steps tb e below B t → Steps tb e below A t) (h : Go tb e below s Q C S B) : Go tb e below s Q C S A := by
  obtain ⟨t, o, h1, h2⟩ := h
  exact ⟨t, o, g t h1, h2⟩
theorem Go.join {tb : Tables} {e : Env} {below : List Frame} {s : State} {Q : Option Value → Heap → List Loc → Prop} {C S : Nat} {A : State} {α : Type} {P : α → Prop} {F : α → State}
    (h1 : ∀ x, P x → Go tb e below s Q C S (F x)) (h2 : (∀ x, P x → Go tb e below s Q C S (F x)) → Go tb e below s Q C S A) : Go tb e below s Q C S A := h2 h1
theorem Go.loop {tb : Tables} {e : Env} {below : List Frame} {s : State} {Q : Option Value → Heap → List Loc → Prop} {C S : Nat} {α : Type} {P : Nat → α → Prop} {F : α → State}
    (h : ∀ k x, P k x → (∀ j y, j < k → P j y → Go tb e below s Q C S (F y)) → Go tb e below s Q C S (F x)) : ∀ k x, P k x → Go tb e below s Q C S (F x) := by
  intro k
  induction k using Nat.strongRecOn with
  | ind k ih => exact fun x hp => h k x hp fun j y hj hy => ih j hj y hy
section Ret
variable {p : Program} {l : Launch} {e : Env} {R : Room} {s : State} {m : MethodId} {args : Array Value} {below : List Frame} {meth : Method} {c : Code} {T : State} {locs : List Loc} {cells slots : Nat} {Q : Option Value → Heap → List Loc → Prop} {C S : Nat}
theorem Go.retV (X : Stand p l e R s m args below meth c T locs cells slots) (hx : p.tables.exec = Jvm.exec) (hlk : meth.locks = false) {pc : Nat} {Ls : Array Slot} {st : List Value} (hret : meth.sig.returnType = none)
    (hd : decode c.code pc = .ok (.return_, 1)) (hs : st = []) (hc : cells ≤ C) (hn : slots ≤ S) (hq : Q none T.heap locs) : Go p.tables e below s Q C S (T.setTop (mkF m pc Ls st)) := by
  subst hs
  obtain ⟨fs, hr, hrun, hended, hW, hsame⟩ := X.leave (v := none) (fun _ => rfl)
  exact ⟨_, _, X.returnOut hx hret hd hr, hrun, hended, _, _, rfl, hq, ⟨_, rfl⟩, hW, hsame.mono hc hn⟩
theorem Go.retW (X : Stand p l e R s m args below meth c T locs cells slots) (hx : p.tables.exec = Jvm.exec) (hlk : meth.locks = false) {pc : Nat} {Ls : Array Slot} {w : Value} {t : FieldType} {i : Instr} {rest : List Value}
    (hret : meth.sig.returnType = some t) (hn : narrow t w = w)
    (hi : (i = .ireturn ∧ (t = .int ∨ t = .boolean ∨ t = .byte ∨ t = .char ∨ t = .short) ∧ ∃ z, w = .int z) ∨ (i = .lreturn ∧ t = .long ∧ ∃ z, w = .long z) ∨ (i = .dreturn ∧ t = .double ∧ ∃ z, w = .double z) ∨ (i = .freturn ∧ t = .float ∧ ∃ z, w = .float z) ∨ (i = .areturn ∧ t.isReference = true ∧ w.isRef = true))
    (hd : decode c.code pc = .ok (i, 1)) (hc : cells ≤ C) (hsl : slots ≤ S) (hq : Q (some w) T.heap locs) : Go p.tables e below s Q C S (T.setTop (mkF m pc Ls (w :: rest))) := by
  obtain ⟨fs, hr, hrun, hended, hW, hsame⟩ := X.leave (v := some w) (fun h => by rw [hret] at h; cases h)
  exact ⟨_, _, retOut X hx hret hn hi hd hr, hrun, hended, _, _, rfl, hq, ⟨_, rfl⟩, hW, hsame.mono hc hsl⟩
theorem Go.retI (X : Stand p l e R s m args below meth c T locs cells slots) (hx : p.tables.exec = Jvm.exec) (hlk : meth.locks = false) {pc : Nat} {Ls : Array Slot} {z : Int32} {rest : List Value}
    (hret : meth.sig.returnType = some .int) (hd : decode c.code pc = .ok (.ireturn, 1)) (hc : cells ≤ C) (hsl : slots ≤ S) (hq : Q (some (.int z)) T.heap locs) : Go p.tables e below s Q C S (T.setTop (mkF m pc Ls (.int z :: rest))) :=
  Go.retW X hx hlk hret rfl (Or.inl ⟨rfl, Or.inl rfl, _, rfl⟩) hd hc hsl hq
theorem Go.retZ (X : Stand p l e R s m args below meth c T locs cells slots) (hx : p.tables.exec = Jvm.exec) (hlk : meth.locks = false) {pc : Nat} {Ls : Array Slot} {z : Int32} {rest : List Value} {t : FieldType}
    (hret : meth.sig.returnType = some t) (ht : t = .boolean ∨ t = .byte ∨ t = .char ∨ t = .short) (hd : decode c.code pc = .ok (.ireturn, 1)) (hc : cells ≤ C) (hsl : slots ≤ S) (hq : Q (some (.int (nar t z))) T.heap locs) : Go p.tables e below s Q C S (T.setTop (mkF m pc Ls (.int z :: rest))) := by
  obtain ⟨fs, hr, hrun, hended, hW, hsame⟩ := X.leave (v := some (.int (nar t z))) (fun h => by rw [hret] at h; cases h)
  exact ⟨_, _, retN X hx hret ht hd hr, hrun, hended, _, _, rfl, hq, ⟨_, rfl⟩, hW, hsame.mono hc hsl⟩
theorem Go.retL (X : Stand p l e R s m args below meth c T locs cells slots) (hx : p.tables.exec = Jvm.exec) (hlk : meth.locks = false) {pc : Nat} {Ls : Array Slot} {z : Int64} {rest : List Value}
    (hret : meth.sig.returnType = some .long) (hd : decode c.code pc = .ok (.lreturn, 1)) (hc : cells ≤ C) (hsl : slots ≤ S) (hq : Q (some (.long z)) T.heap locs) : Go p.tables e below s Q C S (T.setTop (mkF m pc Ls (.long z :: rest))) :=
  Go.retW X hx hlk hret rfl (Or.inr (Or.inl ⟨rfl, rfl, _, rfl⟩)) hd hc hsl hq
theorem Go.retA (X : Stand p l e R s m args below meth c T locs cells slots) (hx : p.tables.exec = Jvm.exec) (hlk : meth.locks = false) {pc : Nat} {Ls : Array Slot} {w : Value} {rest : List Value} {t : FieldType}
    (hret : meth.sig.returnType = some t) (ht : t.isReference = true) (hw : w.isRef = true) (hd : decode c.code pc = .ok (.areturn, 1)) (hc : cells ≤ C) (hsl : slots ≤ S) (hq : Q (some w) T.heap locs) : Go p.tables e below s Q C S (T.setTop (mkF m pc Ls (w :: rest))) :=
  Go.retW X hx hlk hret (by cases t <;> first | rfl | (simp [FieldType.isReference] at ht)) (Or.inr (Or.inr (Or.inr (Or.inr ⟨rfl, ht, hw⟩)))) hd hc hsl hq
end Ret
/-- the contract of a body, by its walk -/
theorem meet {l : Launch} {Z : State} {y : MethodName} {bytes : ByteArray} {maxL : Nat} {ret : Option FieldType} {ws : List Cond} {rm : Room} {as : Array Value} {Ls : Array Slot} {h0 : Heap} {Q : Option Value → Heap → List Loc → Prop}
    (hpl : plainFor y = true) (ef : ∀ m, entryFrame m as maxL = mkF m 0 Ls [])
    (body : ∀ (p : Program) (e : Env) (s : State) (m : MethodId) (below : List Frame) (meth : Method) (c : Code) (T : State), p.tables.exec = Jvm.exec → c.code = bytes → c.maxLocals = maxL → Z.Warmed39 s.vm → s.vm.findClass y.cls = some m.cls → meth.name = y.name →
      meth.sig.returnType = ret → meth.locks = false → Stand p l e rm s m as below meth c T [] 0 0 → T.heap = h0 → Go p.tables e below s Q rm.cells rm.slots (T.setTop (mkF m 0 Ls []))) :
    MetFree l y (head1 (Cond.code y bytes maxL ret :: ws) rm) (fun a U => a = as ∧ Z.Warmed39 U.vm ∧ U.heap = h0) (fun _ _ _ _ _ => True) (fun _ U o U' => ∃ v L, o = .returned v ∧ Q v U'.heap L ∧ FrameEnd U o U' L rm.cells rm.slots) := by
  refine MetFree.of_bodySF hpl hisR ?_
  intro p e s m args below meth c s₁ Bd hml0 hP hK
  obtain ⟨rfl, hZ, hh⟩ := hP
  obtain ⟨t, o, h1, h2, h3, h4⟩ := body p e s m below meth c s₁ Bd.exec Bd.bytes hml0 hZ (findClass_of_methodNamed Bd.named) (name_of_methodNamed Bd.named Bd.method).1 Bd.returns Bd.notSynchronized (Stand.of_body Bd) (by rw [← hh, Bd.state]; rfl)
  exact ⟨t, o, castTop (ef m) h1, h2, h3, h4⟩
/-- what a callee's contract says -/
abbrev Con (l : Launch) (Z : State) (y : MethodName) (bytes : ByteArray) (maxL : Nat) (ret : Option FieldType) (rm : Room) (as : Array Value) (h0 : Heap) (Q : Option Value → Heap → List Loc → Prop) : Prop :=
  MetFree l y (head1 [Cond.code y bytes maxL ret] rm) (fun a U => a = as ∧ Z.Warmed39 U.vm ∧ U.heap = h0) (fun _ _ _ _ _ => True) (fun _ U o U' => ∃ v L, o = .returned v ∧ Q v U'.heap L ∧ FrameEnd U o U' L rm.cells rm.slots)
section Call
variable {p : Program} {l : Launch} {e : Env} {R : Room} {s : State} {m : MethodId} {args : Array Value} {below : List Frame} {meth : Method} {c : Code} {T : State} {locs : List Loc} {cells slots : Nat} {Q : Option Value → Heap → List Loc → Prop} {C S : Nat} {Z : State} {a0 : Array Value} {h : Heap}
theorem Go.callS (X : Stand p l e R s m args below meth c T locs cells slots) (hx : p.tables.exec = Jvm.exec) (hZ : Z.Warmed39 s.vm) {own : String} {index : Nat} {y : MethodName} {bytes : ByteArray} {maxL : Nat} {ret : Option FieldType} {rm : Room} {Q' : Option Value → Heap → List Loc → Prop}
    (hown : s.vm.findClass own = some m.cls) (w1 : (Cond.methodLink own index y).before a0 Z = true) (w2 : (Cond.static y).before a0 Z = true) (w3 : (Cond.initialized y.cls).before a0 Z = true)
    (w4 : (Cond.code y bytes maxL ret).before a0 Z = true) (hy : y.cls ≠ "java/lang/invoke/MethodHandle" ∧ y.cls ≠ "java/lang/invoke/VarHandle")
    (eT : T.heap = h) {pc : Nat} {Ls : Array Slot} {argsL rest st : List Value} {W : Nat} {ps : List FieldType} (hM : Con l Z y bytes maxL ret rm argsL.toArray h Q') (hd : decode c.code pc = .ok (.invokestatic index, 3))
    (hsz : Ls.size = c.maxLocals) (hst : st = argsL.reverse ++ rest) (hpd : parseMethodDescriptor y.desc = some ⟨ps, ret⟩) (hlen : argsL.length = ps.length) (hW : (rest.map fun v => v.category).sum = W)
    (hf : rm.frames + 1 ≤ R.frames) (hl : W + (maxL + 11) + rm.locals ≤ R.locals) (hc : cells + rm.cells ≤ R.cells) (hn : slots + rm.slots ≤ R.slots)
    (k : ∀ (v : Option Value) (T' : State) (L' : List Loc), Stand p l e R s m args below meth c T' (locs ++ L') (cells + rm.cells) (slots + rm.slots) → Q' v T'.heap L' → Go p.tables e below s Q C S (T'.setTop (mkF m (pc + 3) Ls (v.toList ++ rest)))) :
    Go p.tables e below s Q C S (T.setTop (mkF m pc Ls st)) := by
  obtain ⟨v, _, ⟨T', L', kc, kn⟩, -, X', ⟨Lc, hQ, l3, y3, z3⟩, st⟩ := Jvm.LawKit.callS X hx hown (mvT hZ w1) (mvT hZ w2) (mvT hZ w3) (mvT hZ w4) hy (backOf (W := W) hM hZ w4 w3 hf hl) (g := mkF m pc Ls st) rfl hsz (argsL := argsL) (rest := rest) (lenOf hpd hlen) hst (by show 2 * 0 + _ ≤ _; rw [hW]; omega) hd (fun _ _ => ⟨rfl, eT, hc, hn⟩)
  dsimp only [Pt.U, Pt.locs, Pt.cells, Pt.slots] at X' l3 y3 z3 st hQ
  subst l3 y3 z3
  exact Go.of st (k v T' Lc X' hQ)
theorem Go.callI (X : Stand p l e R s m args below meth c T locs cells slots) (hx : p.tables.exec = Jvm.exec) (hZ : Z.Warmed39 s.vm) {own : String} {index : Nat} {y : MethodName} {bytes : ByteArray} {maxL : Nat} {rm : Room} {Q' : Option Value → Heap → List Loc → Prop}
    (hown : s.vm.findClass own = some m.cls) (hy1 : y.name = "<init>") (w1 : (Cond.methodLink own index y).before a0 Z = true) (w2 : (Cond.instanceMethod y).before a0 Z = true) (w3 : (Cond.initialized y.cls).before a0 Z = true)
    (w4 : (Cond.code y bytes maxL none).before a0 Z = true) (hy : y.cls ≠ "java/lang/invoke/MethodHandle" ∧ y.cls ≠ "java/lang/invoke/VarHandle")
    (eT : T.heap = h) {pc : Nat} {Ls : Array Slot} {a : Addr} {argsL rest st : List Value} {W : Nat} {ps : List FieldType} (hM : Con l Z y bytes maxL none rm (.ref a :: argsL).toArray h Q') (hd : decode c.code pc = .ok (.invokespecial index, 3))
    (hsz : Ls.size = c.maxLocals) (hst : st = argsL.reverse ++ .ref a :: rest) (hpd : parseMethodDescriptor y.desc = some ⟨ps, none⟩) (hlen : argsL.length = ps.length) (hW : (rest.map fun v => v.category).sum = W)
    (hf : rm.frames + 1 ≤ R.frames) (hl : W + (maxL + 11) + rm.locals ≤ R.locals) (hc : cells + rm.cells ≤ R.cells) (hn : slots + rm.slots ≤ R.slots)
    (k : ∀ (v : Option Value) (T' : State) (L' : List Loc), Stand p l e R s m args below meth c T' (locs ++ L') (cells + rm.cells) (slots + rm.slots) → Q' v T'.heap L' → Go p.tables e below s Q C S (T'.setTop (mkF m (pc + 3) Ls (v.toList ++ rest)))) :
    Go p.tables e below s Q C S (T.setTop (mkF m pc Ls st)) := by
  obtain ⟨v, _, ⟨T', L', kc, kn⟩, -, X', ⟨Lc, hQ, l3, y3, z3⟩, st⟩ := X.specialBack hx hy1 hown (mvT hZ w1) (mvT hZ w2) (mvT hZ w4) hy (backOf (W := W) hM hZ w4 w3 hf hl) (g := mkF m pc Ls st) rfl hsz (Steps.refl _) (a := a) (argsL := argsL) (rest := rest) (lenOf hpd hlen) hst (by show 2 * 0 + _ ≤ _; rw [hW]; omega) hd (fun _ _ => ⟨rfl, eT, hc, hn⟩)
  dsimp only [Pt.U, Pt.locs, Pt.cells, Pt.slots] at X' l3 y3 z3 st hQ
  subst l3 y3 z3
  exact Go.of (fun _ q => st.trans q) (k v T' Lc X' hQ)
theorem Go.callV (X : Stand p l e R s m args below meth c T locs cells slots) (hx : p.tables.exec = Jvm.exec) (hZ : Z.Warmed39 s.vm) {own K : String} {index : Nat} {y z : MethodName} {bytes : ByteArray} {maxL : Nat} {ret : Option FieldType} {rm : Room} {Q' : Option Value → Heap → List Loc → Prop}
    (hown : s.vm.findClass own = some m.cls) (w1 : (Cond.methodLink own index y).before a0 Z = true) (w2 : (Cond.declares y).before a0 Z = true) (nf : NotFace s y) (w5 : (Cond.selects K y z).before a0 Z = true) (w6 : (Cond.instanceMethod z).before a0 Z = true) (w3 : (Cond.initialized z.cls).before a0 Z = true)
    (w4 : (Cond.code z bytes maxL ret).before a0 Z = true) (hy : y.cls ≠ "java/lang/invoke/MethodHandle" ∧ y.cls ≠ "java/lang/invoke/VarHandle")
    (eT : T.heap = h) {pc : Nat} {Ls : Array Slot} {a : Addr} {argsL rest st : List Value} {W : Nat} {ps : List FieldType} {rt : Option FieldType} (E : Exa Z h a K) (hM : Con l Z z bytes maxL ret rm (.ref a :: argsL).toArray h Q') (hd : decode c.code pc = .ok (.invokevirtual index, 3))
    (hsz : Ls.size = c.maxLocals) (hst : st = argsL.reverse ++ .ref a :: rest) (hpd : parseMethodDescriptor y.desc = some ⟨ps, rt⟩) (hlen : argsL.length = ps.length) (hW : (rest.map fun v => v.category).sum = W)
    (hf : rm.frames + 1 ≤ R.frames) (hl : W + (maxL + 11) + rm.locals ≤ R.locals) (hc : cells + rm.cells ≤ R.cells) (hn : slots + rm.slots ≤ R.slots)
    (k : ∀ (v : Option Value) (T' : State) (L' : List Loc), Stand p l e R s m args below meth c T' (locs ++ L') (cells + rm.cells) (slots + rm.slots) → Q' v T'.heap L' → Go p.tables e below s Q C S (T'.setTop (mkF m (pc + 3) Ls (v.toList ++ rest)))) :
    Go p.tables e below s Q C S (T.setTop (mkF m pc Ls st)) := by
  obtain ⟨cq, kq, qa, qb, qc⟩ := isOf hZ eT E
  obtain ⟨v, _, ⟨T', L', kc, kn⟩, -, X', ⟨Lc, hQ, l3, y3, z3⟩, st⟩ := X.virtualBack hx (y := y) (z := z) hown (mvT hZ w1) (mvT hZ w2) nf (mvT hZ w5) (mvT hZ w6) hy (backOf (W := W) hM hZ w4 w3 hf hl) qa qc (g := mkF m pc Ls st) rfl hsz (Steps.refl _) (argsL := argsL) (rest := rest) (lenOf hpd hlen) hst (by show 2 * 0 + _ ≤ _; rw [hW]; omega) hd (fun _ _ => ⟨rfl, eT, hc, hn⟩)
  dsimp only [Pt.U, Pt.locs, Pt.cells, Pt.slots] at X' l3 y3 z3 st hQ
  subst l3 y3 z3
  exact Go.of (fun _ q => st.trans q) (k v T' Lc X' hQ)
/-- a private method by invokevirtual -/
theorem Go.callP (X : Stand p l e R s m args below meth c T locs cells slots) (hx : p.tables.exec = Jvm.exec) (hZ : Z.Warmed39 s.vm) {own K : String} {index : Nat} {y : MethodName} {bytes : ByteArray} {maxL : Nat} {ret : Option FieldType} {rm : Room} {Q' : Option Value → Heap → List Loc → Prop}
    (hown : s.vm.findClass own = some m.cls) (w1 : (Cond.methodLink own index y).before a0 Z = true) (w6 : (Cond.instanceMethod y).before a0 Z = true) {kk : Nat} (w5 : (Cond.instantiable y.cls kk).before a0 Z = true) (w7 : (Cond.privateMethod y).before a0 Z = true) (w3 : (Cond.initialized y.cls).before a0 Z = true)
    (w4 : (Cond.code y bytes maxL ret).before a0 Z = true) (hy : y.cls ≠ "java/lang/invoke/MethodHandle" ∧ y.cls ≠ "java/lang/invoke/VarHandle")
    (eT : T.heap = h) {pc : Nat} {Ls : Array Slot} {a : Addr} {argsL rest st : List Value} {W : Nat} {ps : List FieldType} {rt : Option FieldType} (E : Exa Z h a K) (hM : Con l Z y bytes maxL ret rm (.ref a :: argsL).toArray h Q') (hd : decode c.code pc = .ok (.invokevirtual index, 3))
    (hsz : Ls.size = c.maxLocals) (hst : st = argsL.reverse ++ .ref a :: rest) (hpd : parseMethodDescriptor y.desc = some ⟨ps, rt⟩) (hlen : argsL.length = ps.length) (hW : (rest.map fun v => v.category).sum = W)
    (hf : rm.frames + 1 ≤ R.frames) (hl : W + (maxL + 11) + rm.locals ≤ R.locals) (hc : cells + rm.cells ≤ R.cells) (hn : slots + rm.slots ≤ R.slots)
    (k : ∀ (v : Option Value) (T' : State) (L' : List Loc), Stand p l e R s m args below meth c T' (locs ++ L') (cells + rm.cells) (slots + rm.slots) → Q' v T'.heap L' → Go p.tables e below s Q C S (T'.setTop (mkF m (pc + 3) Ls (v.toList ++ rest)))) :
    Go p.tables e below s Q C S (T.setTop (mkF m pc Ls st)) := by
  obtain ⟨cq, q1, q2⟩ := E.cell
  obtain ⟨c2, k2, i1, i2, -, i4, -⟩ := Cond.instantiable_spec (mvT (args := args) hZ w5)
  have hpv : s.PrivateAt y := Cond.privateMethod_at (mvP hZ w7 (args := #[]))
  have hsel : (Cond.selects y.cls y y).before args s = true := selects_self_of_private i1 i2 (by simpa using (Bool.or_eq_false_iff.mp i4).1) hpv (mvT hZ w6) hy
  obtain ⟨v, _, ⟨T', L', kc, kn⟩, -, X', ⟨Lc, hQ, l3, y3, z3⟩, st⟩ := X.privateBack hx (y := y) hown (mvT hZ w1) (mvT hZ w6) hsel hpv (mvT hZ w4) hy (backOf (W := W) hM hZ w4 w3 hf hl) (g := mkF m pc Ls st) rfl hsz (Steps.refl _) (a := a) (by rw [eT]; exact q1) q2 (argsL := argsL) (rest := rest) (lenOf hpd hlen) hst (by show 2 * 0 + _ ≤ _; rw [hW]; omega) hd (fun _ _ => ⟨rfl, eT, hc, hn⟩)
  dsimp only [Pt.U, Pt.locs, Pt.cells, Pt.slots] at X' l3 y3 z3 st hQ
  subst l3 y3 z3
  exact Go.of (fun _ q => st.trans q) (k v T' Lc X' hQ)
end Call
/-- an array of n places, place i holding f i -/
def ArF (Z : State) (h : Heap) (a : Addr) (ty : FieldType) (n : Nat) (f : Nat → Value) : Prop :=
  ∃ cl : Cell, Arr Z h a cl ty ∧ cl.slots.size = n ∧ n < 2 ^ 31 ∧ (∀ i, i < n → cl.slots[i]? = some (f i)) ∧ ∀ i, i < n → fits ty (f i) = true
def upV (f : Nat → Value) (j : Nat) (v : Value) (i : Nat) : Value := if i = j then v else f i
def upI (f : Nat → Int32) (j : Nat) (v : Int32) (i : Nat) : Int32 := if i = j then v else f i
def upJ (f : Nat → Int64) (j : Nat) (v : Int64) (i : Nat) : Int64 := if i = j then v else f i
def upD (f : Nat → UInt64) (j : Nat) (v : UInt64) (i : Nat) : UInt64 := if i = j then v else f i
section ArF
variable {Z : State} {h h' : Heap} {a b : Addr} {ty : FieldType} {n : Nat} {f : Nat → Value} {sl : Nat} {v : Value} {ws : List Addr}
theorem ArF.lt (F : ArF Z h a ty n f) : a < h.size := by obtain ⟨c, A, -⟩ := F; exact A.lt
theorem ArF.ext (F : ArF Z h a ty n f) (E : Ext h h') : ArF Z h' a ty n f := by obtain ⟨c, A, r⟩ := F; exact ⟨c, A.ext E, r⟩
theorem ArF.other (F : ArF Z h b ty n f) (W : Wr h h' a sl v) (q : b ≠ a) : ArF Z h' b ty n f := by obtain ⟨c, A, r⟩ := F; exact ⟨c, A.other W q, r⟩
theorem ArF.keep (F : ArF Z h a ty n f) (K : Keep h h' ws) (q : a ∉ ws) : ArF Z h' a ty n f := by obtain ⟨c, A, r⟩ := F; exact ⟨c, ⟨K.2.1 a c A.1 q, A.2⟩, r⟩
theorem ArF.len (F : ArF Z h a ty n f) : n < 2 ^ 31 := by obtain ⟨c, A, r1, r2, -⟩ := F; exact r2
theorem ArF.fit (F : ArF Z h a ty n f) {i : Nat} (hi : i < n) : fits ty (f i) = true := by obtain ⟨c, A, r1, r2, r3, r4⟩ := F; exact r4 i hi
theorem ArF.congr {g : Nat → Value} (F : ArF Z h a ty n f) (q : ∀ i, i < n → g i = f i) : ArF Z h a ty n g := by
  obtain ⟨c, A, r1, r2, r3, r4⟩ := F
  exact ⟨c, A, r1, r2, fun i hi => by rw [q i hi]; exact r3 i hi, fun i hi => by rw [q i hi]; exact r4 i hi⟩
theorem ArF.new {k : ClassId} {z : Int32} (A : Arr Z h a (newA k ty z) ty) (hn : ¬ z < 0) (hz : z.toNatClampNeg = n) : ArF Z h a ty n (fun _ => defaultValue ty) := by
  subst hz
  refine ⟨_, A, sz_new _ _ _, (back32 hn).2, fun i hi => ?_, fun i hi => by cases ty <;> rfl⟩
  simp [newA, hi]
theorem ArF.set {x : Nat} (F : ArF Z h a ty n f) (hv : fits ty v = true) (W : Wr h h' a x v) : ArF Z h' a ty n (upV f x v) := by
  obtain ⟨c, A, r1, r2, r3, r4⟩ := F
  refine ⟨_, A.same W, by simp [Cell.setSlot, r1], r2, fun i hi => ?_, fun i hi => ?_⟩
  · by_cases e : i = x
    · subst e; simp [upV, Cell.setSlot, r1, hi]
    · simp only [upV, e, if_false, Cell.setSlot]
      rw [Array.getElem?_setIfInBounds_ne (Ne.symm e)]; exact r3 i hi
  · by_cases e : i = x
    · simp [upV, e, hv]
    · simp only [upV, e, if_false]; exact r4 i hi
theorem ArF.arv (F : ArF Z h a ty n f) (d : Value) : ∃ k, Arv Z h a k ty n.toInt32 ((List.range n).map f) d := by
  obtain ⟨c, A, r1, r2, r3, r4⟩ := F
  have hz : (n.toInt32).toInt = n := len_toInt r2
  have hz0 : (0 : Int32).toInt = 0 := rfl
  have hg : ∀ i, i < n → ((List.range n).map f).getD i d = f i := fun i hi => by simp [List.getD, hi]
  refine ⟨c.cls, c, A, rfl, ?_, by rw [Int32.lt_iff_toInt_lt]; omega, fun i hi => ?_, fun i hi => ?_⟩
  · rw [r1, Int32.toNatClampNeg]; omega
  · rw [r1] at hi; rw [hg i hi]; exact r3 i hi
  · rw [r1] at hi; rw [hg i hi]; exact r4 i hi
theorem arF_of_arv {k : ClassId} {z : Int32} {vs : List Value} {d : Value} (F : Arv Z h a k ty z vs d) : ArF Z h a ty z.toNatClampNeg (fun i => vs.getD i d) := by
  obtain ⟨c, A, -, r2, r3, r4, r5⟩ := F
  exact ⟨c, A, r2, (back32 r3).2, fun i hi => r4 i (by rw [r2]; exact hi), fun i hi => r5 i (by rw [r2]; exact hi)⟩
/-- n places of f from sp on, laid over f' from dp on -/
def cpF (f f' : Nat → Value) (sp dp nn : Nat) (i : Nat) : Value := if dp ≤ i ∧ i < dp + nn then f (sp + (i - dp)) else f' i
def cpT {α : Type} (f f' : Nat → α) (sp dp nn : Nat) (i : Nat) : α := if dp ≤ i ∧ i < dp + nn then f (sp + (i - dp)) else f' i
theorem ArF.cpI {g g' : Nat → Int32} {x y z : Nat} (F : ArF Z h a ty n (cpF (fun i => .int (g i)) (fun i => .int (g' i)) x y z)) : ArF Z h a ty n (fun i => .int (cpT g g' x y z i)) := F.congr fun i _ => by simp only [cpF, cpT]; split <;> rfl
theorem ArF.cpJ {g g' : Nat → Int64} {x y z : Nat} (F : ArF Z h a ty n (cpF (fun i => .long (g i)) (fun i => .long (g' i)) x y z)) : ArF Z h a ty n (fun i => .long (cpT g g' x y z i)) := F.congr fun i _ => by simp only [cpF, cpT]; split <;> rfl
theorem ArF.cpD {g g' : Nat → UInt64} {x y z : Nat} (F : ArF Z h a ty n (cpF (fun i => .double (g i)) (fun i => .double (g' i)) x y z)) : ArF Z h a ty n (fun i => .double (cpT g g' x y z i)) := F.congr fun i _ => by simp only [cpF, cpT]; split <;> rfl
theorem nat_idx {j : Int32} {k : Nat} (hj : j.toInt = (k : Int)) : j.toNatClampNeg = k := by simp only [Int32.toNatClampNeg]; omega
theorem in_idx {j : Int32} {k : Nat} {c : Cell} (hj : j.toInt = (k : Int)) (hk : k < n) (e : c.slots.size = n) : ¬ (j < 0 ∨ c.slots.size ≤ j.toNatClampNeg) := by
  rw [nat_idx hj, e, Int32.lt_iff_toInt_lt]
  have : (0 : Int32).toInt = 0 := rfl
  omega
end ArF
section ArrSteps
variable {p : Program} {l : Launch} {e : Env} {R : Room} {s : State} {m : MethodId} {args : Array Value} {below : List Frame} {meth : Method} {c : Code} {T : State} {locs : List Loc} {cells slots : Nat} {Q : Option Value → Heap → List Loc → Prop} {C S : Nat} {Z : State} {a0 : Array Value} {h : Heap} {a : Addr} {n : Nat} {j : Int32} {pc : Nat} {Ls : Array Slot} {rest : List Value}
theorem Go.alen (X : Stand p l e R s m args below meth c T locs cells slots) (hx : p.tables.exec = Jvm.exec) (hZ : Z.Warmed39 s.vm) (eT : T.heap = h) {ty : FieldType} {f : Nat → Value} (F : ArF Z h a ty n f) (hd : decode c.code pc = .ok (.arraylength, 1))
    (kk : Go p.tables e below s Q C S (T.setTop (mkF m (pc + 1) Ls (.int n.toInt32 :: rest)))) : Go p.tables e below s Q C S (T.setTop (mkF m pc Ls (.ref a :: rest))) := by
  obtain ⟨cl, A, r1, r2, -⟩ := F
  subst r1
  exact Go.of (fun t q => X.arraylength hx (by rw [eT]; exact A.1) (State.isArrayOf_alike hZ.alike A.2.1) (g := mkF m pc Ls (.ref a :: rest)) rfl rfl hd t q) kk
theorem Go.iaload (X : Stand p l e R s m args below meth c T locs cells slots) (hx : p.tables.exec = Jvm.exec) (hZ : Z.Warmed39 s.vm) (eT : T.heap = h) {f : Nat → Int32} (F : ArF Z h a .int n (fun i => .int (f i))) {k : Nat} (hj : j.toInt = (k : Int)) (hk : k < n) (hd : decode c.code pc = .ok (.iaload, 1))
    (kk : Go p.tables e below s Q C S (T.setTop (mkF m (pc + 1) Ls (.int (f k) :: rest)))) : Go p.tables e below s Q C S (T.setTop (mkF m pc Ls (.int j :: .ref a :: rest))) := by
  obtain ⟨cl, A, r1, r2, r3, -⟩ := F
  exact Go.of (fun t q => X.iaload hx (j := j) (v := .int (f k)) (by rw [eT]; exact A.1) (State.isArrayOf_alike hZ.alike A.2.1) A.2.2 (in_idx hj hk r1) (by rw [nat_idx hj, r3 _ hk]) (g := mkF m pc Ls (.int j :: .ref a :: rest)) rfl rfl hd t q) kk
theorem Go.laload (X : Stand p l e R s m args below meth c T locs cells slots) (hx : p.tables.exec = Jvm.exec) (hZ : Z.Warmed39 s.vm) (eT : T.heap = h) {f : Nat → Int64} (F : ArF Z h a .long n (fun i => .long (f i))) {k : Nat} (hj : j.toInt = (k : Int)) (hk : k < n) (hd : decode c.code pc = .ok (.laload, 1))
    (kk : Go p.tables e below s Q C S (T.setTop (mkF m (pc + 1) Ls (.long (f k) :: rest)))) : Go p.tables e below s Q C S (T.setTop (mkF m pc Ls (.int j :: .ref a :: rest))) := by
  obtain ⟨cl, A, r1, r2, r3, -⟩ := F
  exact Go.of (fun t q => X.laload hx (j := j) (v := .long (f k)) (by rw [eT]; exact A.1) (State.isArrayOf_alike hZ.alike A.2.1) A.2.2 (in_idx hj hk r1) (by rw [nat_idx hj, r3 _ hk]) (g := mkF m pc Ls (.int j :: .ref a :: rest)) rfl rfl hd t q) kk
theorem Go.baload (X : Stand p l e R s m args below meth c T locs cells slots) (hx : p.tables.exec = Jvm.exec) (hZ : Z.Warmed39 s.vm) (eT : T.heap = h) {f : Nat → Int32} (F : ArF Z h a .byte n (fun i => .int (f i))) {k : Nat} (hj : j.toInt = (k : Int)) (hk : k < n) (hd : decode c.code pc = .ok (.baload, 1))
    (kk : Go p.tables e below s Q C S (T.setTop (mkF m (pc + 1) Ls (.int (f k) :: rest)))) : Go p.tables e below s Q C S (T.setTop (mkF m pc Ls (.int j :: .ref a :: rest))) := by
  obtain ⟨cl, A, r1, r2, r3, -⟩ := F
  exact Go.of (fun t q => X.baloadBytes hx (j := j) (v := .int (f k)) (by rw [eT]; exact A.1) (State.isArrayOf_alike hZ.alike A.2.1) A.2.2 (in_idx hj hk r1) (by rw [nat_idx hj, r3 _ hk]) (g := mkF m pc Ls (.int j :: .ref a :: rest)) rfl rfl hd t q) kk
theorem Go.daload (X : Stand p l e R s m args below meth c T locs cells slots) (hx : p.tables.exec = Jvm.exec) (hZ : Z.Warmed39 s.vm) (eT : T.heap = h) {f : Nat → UInt64} (F : ArF Z h a .double n (fun i => .double (f i))) {k : Nat} (hj : j.toInt = (k : Int)) (hk : k < n) (hd : decode c.code pc = .ok (.daload, 1))
    (kk : Go p.tables e below s Q C S (T.setTop (mkF m (pc + 1) Ls (.double (f k) :: rest)))) : Go p.tables e below s Q C S (T.setTop (mkF m pc Ls (.int j :: .ref a :: rest))) := by
  obtain ⟨cl, A, r1, r2, r3, -⟩ := F
  exact Go.of (fun t q => X.daload hx (j := j) (v := .double (f k)) (by rw [eT]; exact A.1) (State.isArrayOf_alike hZ.alike A.2.1) A.2.2 (in_idx hj hk r1) (by rw [nat_idx hj, r3 _ hk]) (g := mkF m pc Ls (.int j :: .ref a :: rest)) rfl rfl hd t q) kk
theorem Go.aaload (X : Stand p l e R s m args below meth c T locs cells slots) (hx : p.tables.exec = Jvm.exec) (hZ : Z.Warmed39 s.vm) (eT : T.heap = h) {ty : FieldType} {f : Nat → Value} (F : ArF Z h a ty n f) (hty : ty.isReference = true) {k : Nat} (hj : j.toInt = (k : Int)) (hk : k < n) {v : Value} (hv : f k = v) (hd : decode c.code pc = .ok (.aaload, 1))
    (kk : Go p.tables e below s Q C S (T.setTop (mkF m (pc + 1) Ls (v :: rest)))) : Go p.tables e below s Q C S (T.setTop (mkF m pc Ls (.int j :: .ref a :: rest))) := by
  obtain ⟨cl, A, r1, r2, r3, -⟩ := F
  exact Go.of (fun t q => X.aaload hx (j := j) (v := v) (by rw [eT]; exact A.1) (State.isArrayOf_alike hZ.alike A.2.1) hty A.2.2 (in_idx hj hk r1) (by rw [nat_idx hj, r3 _ hk, hv]) (g := mkF m pc Ls (.int j :: .ref a :: rest)) rfl rfl hd t q) kk
theorem Go.iastore (X : Stand p l e R s m args below meth c T locs cells slots) (hx : p.tables.exec = Jvm.exec) (hZ : Z.Warmed39 s.vm) (eT : T.heap = h) {f : Nat → Int32} (F : ArF Z h a .int n (fun i => .int (f i))) {x : Int32} {k : Nat} (hj : j.toInt = (k : Int)) (hk : k < n) (hd : decode c.code pc = .ok (.iastore, 1))
    (kk : ∀ T' h', Stand p l e R s m args below meth c T' (locs ++ [⟨a, k⟩]) cells slots → T'.heap = h' → Wr h h' a k (.int x) → ArF Z h' a .int n (fun i => .int (upI f k x i)) → Go p.tables e below s Q C S (T'.setTop (mkF m (pc + 1) Ls rest))) : Go p.tables e below s Q C S (T.setTop (mkF m pc Ls (.int x :: .int j :: .ref a :: rest))) := by
  obtain ⟨cl, A, r1, r2, r3, r4⟩ := F
  obtain ⟨T', h', X', e', W, st⟩ := stI X hx hZ eT A (j := j) (in_idx hj hk r1) (g := mkF m pc Ls (.int x :: .int j :: .ref a :: rest)) rfl rfl hd
  rw [nat_idx hj] at X' W
  exact Go.of st (kk T' h' X' e' W ((ArF.set ⟨cl, A, r1, r2, r3, r4⟩ rfl W).congr fun i _ => by simp only [upV, upI]; split <;> rfl))
theorem Go.lastore (X : Stand p l e R s m args below meth c T locs cells slots) (hx : p.tables.exec = Jvm.exec) (hZ : Z.Warmed39 s.vm) (eT : T.heap = h) {f : Nat → Int64} (F : ArF Z h a .long n (fun i => .long (f i))) {x : Int64} {k : Nat} (hj : j.toInt = (k : Int)) (hk : k < n) (hd : decode c.code pc = .ok (.lastore, 1))
    (kk : ∀ T' h', Stand p l e R s m args below meth c T' (locs ++ [⟨a, k⟩]) cells slots → T'.heap = h' → Wr h h' a k (.long x) → ArF Z h' a .long n (fun i => .long (upJ f k x i)) → Go p.tables e below s Q C S (T'.setTop (mkF m (pc + 1) Ls rest))) : Go p.tables e below s Q C S (T.setTop (mkF m pc Ls (.long x :: .int j :: .ref a :: rest))) := by
  obtain ⟨cl, A, r1, r2, r3, r4⟩ := F
  obtain ⟨T', h', X', e', W, st⟩ := stJ X hx hZ eT A (j := j) (in_idx hj hk r1) (g := mkF m pc Ls (.long x :: .int j :: .ref a :: rest)) rfl rfl hd
  rw [nat_idx hj] at X' W
  exact Go.of st (kk T' h' X' e' W ((ArF.set ⟨cl, A, r1, r2, r3, r4⟩ rfl W).congr fun i _ => by simp only [upV, upJ]; split <;> rfl))
theorem Go.bastore (X : Stand p l e R s m args below meth c T locs cells slots) (hx : p.tables.exec = Jvm.exec) (hZ : Z.Warmed39 s.vm) (eT : T.heap = h) {f : Nat → Int32} (F : ArF Z h a .byte n (fun i => .int (f i))) {x : Int32} {k : Nat} (hj : j.toInt = (k : Int)) (hk : k < n) (hd : decode c.code pc = .ok (.bastore, 1))
    (kk : ∀ T' h', Stand p l e R s m args below meth c T' (locs ++ [⟨a, k⟩]) cells slots → T'.heap = h' → Wr h h' a k (.int (nar .byte x)) → ArF Z h' a .byte n (fun i => .int (upI f k (nar .byte x) i)) → Go p.tables e below s Q C S (T'.setTop (mkF m (pc + 1) Ls rest))) : Go p.tables e below s Q C S (T.setTop (mkF m pc Ls (.int x :: .int j :: .ref a :: rest))) := by
  obtain ⟨cl, A, r1, r2, r3, r4⟩ := F
  obtain ⟨T', h', X', e', W, st⟩ := stB X hx hZ eT A (j := j) (in_idx hj hk r1) (g := mkF m pc Ls (.int x :: .int j :: .ref a :: rest)) rfl rfl hd
  rw [nat_idx hj] at X' W
  exact Go.of st (kk T' h' X' e' W ((ArF.set ⟨cl, A, r1, r2, r3, r4⟩ (fits_nar_byte _) W).congr fun i _ => by simp only [upV, upI]; split <;> rfl))
theorem Go.dastore (X : Stand p l e R s m args below meth c T locs cells slots) (hx : p.tables.exec = Jvm.exec) (hZ : Z.Warmed39 s.vm) (eT : T.heap = h) {f : Nat → UInt64} (F : ArF Z h a .double n (fun i => .double (f i))) {x : UInt64} {k : Nat} (hj : j.toInt = (k : Int)) (hk : k < n) (hd : decode c.code pc = .ok (.dastore, 1))
    (kk : ∀ T' h', Stand p l e R s m args below meth c T' (locs ++ [⟨a, k⟩]) cells slots → T'.heap = h' → Wr h h' a k (.double x) → ArF Z h' a .double n (fun i => .double (upD f k x i)) → Go p.tables e below s Q C S (T'.setTop (mkF m (pc + 1) Ls rest))) : Go p.tables e below s Q C S (T.setTop (mkF m pc Ls (.double x :: .int j :: .ref a :: rest))) := by
  obtain ⟨cl, A, r1, r2, r3, r4⟩ := F
  obtain ⟨T', h', X', e', W, st⟩ := stD X hx hZ eT A (j := j) (in_idx hj hk r1) (g := mkF m pc Ls (.double x :: .int j :: .ref a :: rest)) rfl rfl hd
  rw [nat_idx hj] at X' W
  exact Go.of st (kk T' h' X' e' W ((ArF.set ⟨cl, A, r1, r2, r3, r4⟩ rfl W).congr fun i _ => by simp only [upV, upD]; split <;> rfl))
theorem Go.newarr (X : Stand p l e R s m args below meth c T locs cells slots) (hx : p.tables.exec = Jvm.exec) (hZ : Z.Warmed39 s.vm) {aty : ArrayType} {ty : FieldType} (hty : newarray.typeOf aty = ty) (w : (Cond.arrayClass ty).before a0 Z = true) (eT : T.heap = h) {z : Int32} (hn : ¬ z < 0) (hz : z.toNatClampNeg = n) {cap : Nat} (hcap : n ≤ cap) (hb : cap * 8 ≤ 536870912) (hc : cells + 1 ≤ R.cells) (hl : slots + cap ≤ R.slots)
    (hd : decode c.code pc = .ok (.newarray aty, 2))
    (kk : ∀ T' h' b, Stand p l e R s m args below meth c T' locs (cells + 1) (slots + cap) → T'.heap = h' → Ext h h' → b = h.size → ArF Z h' b ty n (fun _ => defaultValue ty) → Go p.tables e below s Q C S (T'.setTop (mkF m (pc + 2) Ls (.ref b :: rest)))) : Go p.tables e below s Q C S (T.setTop (mkF m pc Ls (.int z :: rest))) := by
  subst hty
  obtain ⟨T', h', cA, X', e', E, A, st⟩ := newP X hx hZ w eT (g := mkF m pc Ls (.int z :: rest)) rfl hd rfl hn (cap := cap) (by omega) hb hc hl
  exact Go.of st (kk T' h' h.size X' e' E rfl (ArF.new A hn hz))
theorem Go.arraycopy (X : Stand p l e R s m args below meth c T locs cells slots) (hx : p.tables.exec = Jvm.exec) (hZ : Z.Warmed39 s.vm) {own : String} {index : Nat} (hown : s.vm.findClass own = some m.cls)
    (w1 : (Cond.methodLink own index Jvm.Stand.acN).before a0 Z = true) (w2 : (Cond.native Jvm.Stand.acN).before a0 Z = true) (w3 : (Cond.static Jvm.Stand.acN).before a0 Z = true) (w4 : (Cond.initialized "java/lang/System").before a0 Z = true) (eT : T.heap = h)
    {ty : FieldType} {b : Addr} {n' : Nat} {f f' : Nat → Value} (A : ArF Z h a ty n f) (B : ArF Z h b ty n' f') (hty : refKind ty = false) {sp dp nn : Int32} {ks kd kn : Nat} (h1 : sp.toInt = (ks : Int)) (h2 : dp.toInt = (kd : Int)) (h3 : nn.toInt = (kn : Int)) (h4 : ks + kn ≤ n) (h5 : kd + kn ≤ n') {n0 : Nat} (N : Fr n0 locs) (ge : n0 ≤ b)
    (hsz : Ls.size = c.maxLocals) (hd : decode c.code pc = .ok (.invokestatic index, 3)) (hf : 1 ≤ R.frames) {W : Nat} (hW : (rest.map fun v => v.category).sum = W) (hlo : W + (nativeFrameWords "java/lang/System" "arraycopy" 5 + 11) ≤ R.locals)
    (kk : ∀ T' h' L, Stand p l e R s m args below meth c T' L cells slots → T'.heap = h' → Fr n0 L → Keep h h' [b] → ArF Z h' b ty n' (cpF f f' ks kd kn) → Go p.tables e below s Q C S (T'.setTop (mkF m (pc + 3) Ls rest))) : Go p.tables e below s Q C S (T.setTop (mkF m pc Ls (.int nn :: .int dp :: .ref b :: .int sp :: .ref a :: rest))) := by
  obtain ⟨k1, A'⟩ := A.arv (.int 0)
  obtain ⟨k2, B'⟩ := B.arv (.int 0)
  have e1 := nat_idx h1
  have e2 := nat_idx h2
  have e3 := nat_idx h3
  have z0 : (0 : Int32).toInt = 0 := rfl
  have zn : (n.toInt32).toNatClampNeg = n := by have := len_toInt A.len; rw [Int32.toNatClampNeg]; omega
  have zn' : (n'.toInt32).toNatClampNeg = n' := by have := len_toInt B.len; rw [Int32.toNatClampNeg]; omega
  obtain ⟨T', h', L, X', e', N', K, V, st⟩ := cpA X hx hZ hown w1 w2 w3 w4 eT A' B' (Or.inl ⟨rfl, hty⟩) (sp := sp) (dp := dp) (nn := nn) (by rw [Int32.lt_iff_toInt_lt]; omega) (by rw [Int32.lt_iff_toInt_lt]; omega) (by rw [Int32.lt_iff_toInt_lt]; omega) (by rw [e1, e3, zn]; exact h4) (by rw [e2, e3, zn']; exact h5) rfl (by rw [e2, e3]; simpa using h5) N ge (g := mkF m pc Ls (.int nn :: .int dp :: .ref b :: .int sp :: .ref a :: rest)) rfl hsz rfl hd hf (W := W) (by show 2 * 0 + _ ≤ _; rw [hW]; omega) hlo
  refine Go.of st (kk T' h' L X' e' N' K ?_)
  have V2 := arF_of_arv V
  rw [zn'] at V2
  refine V2.congr fun i hi => ?_
  rw [e1, e2, e3]
  simp only [cpF, List.getD]
  by_cases c1 : i < kd
  · rw [if_neg (by omega), List.append_assoc, List.getElem?_append_left (by simp; omega)]
    simp [c1, hi]
  · by_cases c2 : i < kd + kn
    · have c3 : ks + (i - kd) < n := by omega
      have c4 : i - kd < kn := by omega
      rw [if_pos ⟨by omega, c2⟩, List.append_assoc, List.getElem?_append_right (by simp; omega)]
      have c5 : (List.take kd (List.map f' (List.range n'))).length = kd := by simp; omega
      rw [c5, List.getElem?_append_left (by simpa using c4)]
      simp [c4, c3]
    · have c5 : (List.take kd (List.map f' (List.range n')) ++ List.map (fun i => ((List.map f (List.range n))[ks + i]?).getD (Value.int 0)) (List.range kn)).length = kd + kn := by simp; omega
      rw [if_neg (by omega), List.getElem?_append_right (by rw [c5]; omega), c5]
      have c6 : kd + kn + (i - (kd + kn)) = i := by omega
      simp [c6, hi]
end ArrSteps
section Steps1
variable {p : Program} {l : Launch} {e : Env} {R : Room} {s : State} {m : MethodId} {args : Array Value} {below : List Frame} {meth : Method} {c : Code} {T : State} {locs : List Loc} {cells slots : Nat} {Q : Option Value → Heap → List Loc → Prop} {C S : Nat} {bs : ByteArray} {pc pc' : Nat} {Ls : Array Slot} {st : List Value} {Z : State} {a0 : Array Value} {h : Heap} {own : String}
theorem g_iloadN (X : Stand p l e R s m args below meth c T locs cells slots) (hx : p.tables.exec = Jvm.exec) (hby : c.code = bs) {k : Fin 4} {v : Int32} (hd : decode bs pc = .ok (.iload_n k, 1)) (hp : pc + 1 = pc') (hl : Ls[k.val]? = some (.val (.int v))) (kk : Go p.tables e below s Q C S (T.setTop (mkF m pc' Ls (.int v :: st)))) : Go p.tables e below s Q C S (T.setTop (mkF m pc Ls (st))) := by
  subst hp
  exact Go.of (fun _ q => XS.iloadN X.here hx rfl (hb hby hd) hl q) kk
theorem g_iload (X : Stand p l e R s m args below meth c T locs cells slots) (hx : p.tables.exec = Jvm.exec) (hby : c.code = bs) {k : Nat} {v : Int32} (hd : decode bs pc = .ok (.iload k, 2)) (hp : pc + 2 = pc') (hl : Ls[k]? = some (.val (.int v))) (kk : Go p.tables e below s Q C S (T.setTop (mkF m pc' Ls (.int v :: st)))) : Go p.tables e below s Q C S (T.setTop (mkF m pc Ls (st))) := by
  subst hp
  exact Go.of (fun _ q => XS.iload X.here hx rfl (hb hby hd) hl q) kk
theorem g_istoreN (X : Stand p l e R s m args below meth c T locs cells slots) (hx : p.tables.exec = Jvm.exec) (hby : c.code = bs) {k : Fin 4} {v : Int32} {L' : Array Slot} (hd : decode bs pc = .ok (.istore_n k, 1)) (hp : pc + 1 = pc') (hl : storeLocals Ls k.val (.int v) = some L') (kk : Go p.tables e below s Q C S (T.setTop (mkF m pc' L' (st)))) : Go p.tables e below s Q C S (T.setTop (mkF m pc Ls (.int v :: st))) := by
  subst hp
  exact Go.of (fun _ q => XS.istoreN X.here hx rfl (hb hby hd) rfl hl q) kk
theorem g_istore (X : Stand p l e R s m args below meth c T locs cells slots) (hx : p.tables.exec = Jvm.exec) (hby : c.code = bs) {k : Nat} {v : Int32} {L' : Array Slot} (hd : decode bs pc = .ok (.istore k, 2)) (hp : pc + 2 = pc') (hl : storeLocals Ls k (.int v) = some L') (kk : Go p.tables e below s Q C S (T.setTop (mkF m pc' L' (st)))) : Go p.tables e below s Q C S (T.setTop (mkF m pc Ls (.int v :: st))) := by
  subst hp
  exact Go.of (fun _ q => XS.istore X.here hx rfl (hb hby hd) rfl hl q) kk
theorem g_iadd (X : Stand p l e R s m args below meth c T locs cells slots) (hx : p.tables.exec = Jvm.exec) (hby : c.code = bs) {x y z : Int32} (hd : decode bs pc = .ok (.iadd, 1)) (hp : pc + 1 = pc') (hz : x + y = z) (kk : Go p.tables e below s Q C S (T.setTop (mkF m pc' Ls (.int z :: st)))) : Go p.tables e below s Q C S (T.setTop (mkF m pc Ls (.int y :: .int x :: st))) := by
  subst hp; subst hz
  exact Go.of (fun _ q => XS.iadd X.here hx rfl (hb hby hd) rfl q) kk
theorem g_isub (X : Stand p l e R s m args below meth c T locs cells slots) (hx : p.tables.exec = Jvm.exec) (hby : c.code = bs) {x y z : Int32} (hd : decode bs pc = .ok (.isub, 1)) (hp : pc + 1 = pc') (hz : x - y = z) (kk : Go p.tables e below s Q C S (T.setTop (mkF m pc' Ls (.int z :: st)))) : Go p.tables e below s Q C S (T.setTop (mkF m pc Ls (.int y :: .int x :: st))) := by
  subst hp; subst hz
  exact Go.of (fun _ q => XS.isub X.here hx rfl (hb hby hd) rfl q) kk
theorem g_imul (X : Stand p l e R s m args below meth c T locs cells slots) (hx : p.tables.exec = Jvm.exec) (hby : c.code = bs) {x y z : Int32} (hd : decode bs pc = .ok (.imul, 1)) (hp : pc + 1 = pc') (hz : x * y = z) (kk : Go p.tables e below s Q C S (T.setTop (mkF m pc' Ls (.int z :: st)))) : Go p.tables e below s Q C S (T.setTop (mkF m pc Ls (.int y :: .int x :: st))) := by
  subst hp; subst hz
  exact Go.of (fun _ q => XS.imul X.here hx rfl (hb hby hd) rfl q) kk
theorem g_iand (X : Stand p l e R s m args below meth c T locs cells slots) (hx : p.tables.exec = Jvm.exec) (hby : c.code = bs) {x y z : Int32} (hd : decode bs pc = .ok (.iand, 1)) (hp : pc + 1 = pc') (hz : x &&& y = z) (kk : Go p.tables e below s Q C S (T.setTop (mkF m pc' Ls (.int z :: st)))) : Go p.tables e below s Q C S (T.setTop (mkF m pc Ls (.int y :: .int x :: st))) := by
  subst hp; subst hz
  exact Go.of (fun _ q => XS.iand X.here hx rfl (hb hby hd) rfl q) kk
theorem g_ior (X : Stand p l e R s m args below meth c T locs cells slots) (hx : p.tables.exec = Jvm.exec) (hby : c.code = bs) {x y z : Int32} (hd : decode bs pc = .ok (.ior, 1)) (hp : pc + 1 = pc') (hz : x ||| y = z) (kk : Go p.tables e below s Q C S (T.setTop (mkF m pc' Ls (.int z :: st)))) : Go p.tables e below s Q C S (T.setTop (mkF m pc Ls (.int y :: .int x :: st))) := by
  subst hp; subst hz
  exact Go.of (fun _ q => XS.ior X.here hx rfl (hb hby hd) rfl q) kk
theorem g_ixor (X : Stand p l e R s m args below meth c T locs cells slots) (hx : p.tables.exec = Jvm.exec) (hby : c.code = bs) {x y z : Int32} (hd : decode bs pc = .ok (.ixor, 1)) (hp : pc + 1 = pc') (hz : x ^^^ y = z) (kk : Go p.tables e below s Q C S (T.setTop (mkF m pc' Ls (.int z :: st)))) : Go p.tables e below s Q C S (T.setTop (mkF m pc Ls (.int y :: .int x :: st))) := by
  subst hp; subst hz
  exact Go.of (fun _ q => XS.ixor X.here hx rfl (hb hby hd) rfl q) kk
theorem g_ineg (X : Stand p l e R s m args below meth c T locs cells slots) (hx : p.tables.exec = Jvm.exec) (hby : c.code = bs) {x z : Int32} (hd : decode bs pc = .ok (.ineg, 1)) (hp : pc + 1 = pc') (hz : -x = z) (kk : Go p.tables e below s Q C S (T.setTop (mkF m pc' Ls (.int z :: st)))) : Go p.tables e below s Q C S (T.setTop (mkF m pc Ls (.int x :: st))) := by
  subst hp; subst hz
  exact Go.of (fun _ q => XS.ineg X.here hx rfl (hb hby hd) rfl q) kk
theorem g_idiv (X : Stand p l e R s m args below meth c T locs cells slots) (hx : p.tables.exec = Jvm.exec) (hby : c.code = bs) {x y z : Int32} (hd : decode bs pc = .ok (.idiv, 1)) (hp : pc + 1 = pc') (hy : y ≠ 0) (hz : x / y = z) (kk : Go p.tables e below s Q C S (T.setTop (mkF m pc' Ls (.int z :: st)))) : Go p.tables e below s Q C S (T.setTop (mkF m pc Ls (.int y :: .int x :: st))) := by
  subst hp; subst hz
  exact Go.of (fun _ q => XS.idiv X.here hx rfl (hb hby hd) rfl hy q) kk
theorem g_lloadN (X : Stand p l e R s m args below meth c T locs cells slots) (hx : p.tables.exec = Jvm.exec) (hby : c.code = bs) {k : Fin 4} {v : Int64} (hd : decode bs pc = .ok (.lload_n k, 1)) (hp : pc + 1 = pc') (hl : Ls[k.val]? = some (.val (.long v))) (kk : Go p.tables e below s Q C S (T.setTop (mkF m pc' Ls (.long v :: st)))) : Go p.tables e below s Q C S (T.setTop (mkF m pc Ls (st))) := by
  subst hp
  exact Go.of (fun _ q => XS.lloadN X.here hx rfl (hb hby hd) hl q) kk
theorem g_lload (X : Stand p l e R s m args below meth c T locs cells slots) (hx : p.tables.exec = Jvm.exec) (hby : c.code = bs) {k : Nat} {v : Int64} (hd : decode bs pc = .ok (.lload k, 2)) (hp : pc + 2 = pc') (hl : Ls[k]? = some (.val (.long v))) (kk : Go p.tables e below s Q C S (T.setTop (mkF m pc' Ls (.long v :: st)))) : Go p.tables e below s Q C S (T.setTop (mkF m pc Ls (st))) := by
  subst hp
  exact Go.of (fun _ q => XS.lload X.here hx rfl (hb hby hd) hl q) kk
theorem g_lstoreN (X : Stand p l e R s m args below meth c T locs cells slots) (hx : p.tables.exec = Jvm.exec) (hby : c.code = bs) {k : Fin 4} {v : Int64} {L' : Array Slot} (hd : decode bs pc = .ok (.lstore_n k, 1)) (hp : pc + 1 = pc') (hl : storeLocals Ls k.val (.long v) = some L') (kk : Go p.tables e below s Q C S (T.setTop (mkF m pc' L' (st)))) : Go p.tables e below s Q C S (T.setTop (mkF m pc Ls (.long v :: st))) := by
  subst hp
  exact Go.of (fun _ q => XS.lstoreN X.here hx rfl (hb hby hd) rfl hl q) kk
theorem g_lstore (X : Stand p l e R s m args below meth c T locs cells slots) (hx : p.tables.exec = Jvm.exec) (hby : c.code = bs) {k : Nat} {v : Int64} {L' : Array Slot} (hd : decode bs pc = .ok (.lstore k, 2)) (hp : pc + 2 = pc') (hl : storeLocals Ls k (.long v) = some L') (kk : Go p.tables e below s Q C S (T.setTop (mkF m pc' L' (st)))) : Go p.tables e below s Q C S (T.setTop (mkF m pc Ls (.long v :: st))) := by
  subst hp
  exact Go.of (fun _ q => XS.lstore X.here hx rfl (hb hby hd) rfl hl q) kk
theorem g_ladd (X : Stand p l e R s m args below meth c T locs cells slots) (hx : p.tables.exec = Jvm.exec) (hby : c.code = bs) {x y z : Int64} (hd : decode bs pc = .ok (.ladd, 1)) (hp : pc + 1 = pc') (hz : x + y = z) (kk : Go p.tables e below s Q C S (T.setTop (mkF m pc' Ls (.long z :: st)))) : Go p.tables e below s Q C S (T.setTop (mkF m pc Ls (.long y :: .long x :: st))) := by
  subst hp; subst hz
  exact Go.of (fun _ q => XS.ladd X.here hx rfl (hb hby hd) rfl q) kk
theorem g_lsub (X : Stand p l e R s m args below meth c T locs cells slots) (hx : p.tables.exec = Jvm.exec) (hby : c.code = bs) {x y z : Int64} (hd : decode bs pc = .ok (.lsub, 1)) (hp : pc + 1 = pc') (hz : x - y = z) (kk : Go p.tables e below s Q C S (T.setTop (mkF m pc' Ls (.long z :: st)))) : Go p.tables e below s Q C S (T.setTop (mkF m pc Ls (.long y :: .long x :: st))) := by
  subst hp; subst hz
  exact Go.of (fun _ q => XS.lsub X.here hx rfl (hb hby hd) rfl q) kk
theorem g_lmul (X : Stand p l e R s m args below meth c T locs cells slots) (hx : p.tables.exec = Jvm.exec) (hby : c.code = bs) {x y z : Int64} (hd : decode bs pc = .ok (.lmul, 1)) (hp : pc + 1 = pc') (hz : x * y = z) (kk : Go p.tables e below s Q C S (T.setTop (mkF m pc' Ls (.long z :: st)))) : Go p.tables e below s Q C S (T.setTop (mkF m pc Ls (.long y :: .long x :: st))) := by
  subst hp; subst hz
  exact Go.of (fun _ q => XS.lmul X.here hx rfl (hb hby hd) rfl q) kk
theorem g_land (X : Stand p l e R s m args below meth c T locs cells slots) (hx : p.tables.exec = Jvm.exec) (hby : c.code = bs) {x y z : Int64} (hd : decode bs pc = .ok (.land, 1)) (hp : pc + 1 = pc') (hz : x &&& y = z) (kk : Go p.tables e below s Q C S (T.setTop (mkF m pc' Ls (.long z :: st)))) : Go p.tables e below s Q C S (T.setTop (mkF m pc Ls (.long y :: .long x :: st))) := by
  subst hp; subst hz
  exact Go.of (fun _ q => XS.land X.here hx rfl (hb hby hd) rfl q) kk
theorem g_lor (X : Stand p l e R s m args below meth c T locs cells slots) (hx : p.tables.exec = Jvm.exec) (hby : c.code = bs) {x y z : Int64} (hd : decode bs pc = .ok (.lor, 1)) (hp : pc + 1 = pc') (hz : x ||| y = z) (kk : Go p.tables e below s Q C S (T.setTop (mkF m pc' Ls (.long z :: st)))) : Go p.tables e below s Q C S (T.setTop (mkF m pc Ls (.long y :: .long x :: st))) := by
  subst hp; subst hz
  exact Go.of (fun _ q => XS.lor X.here hx rfl (hb hby hd) rfl q) kk
theorem g_lxor (X : Stand p l e R s m args below meth c T locs cells slots) (hx : p.tables.exec = Jvm.exec) (hby : c.code = bs) {x y z : Int64} (hd : decode bs pc = .ok (.lxor, 1)) (hp : pc + 1 = pc') (hz : x ^^^ y = z) (kk : Go p.tables e below s Q C S (T.setTop (mkF m pc' Ls (.long z :: st)))) : Go p.tables e below s Q C S (T.setTop (mkF m pc Ls (.long y :: .long x :: st))) := by
  subst hp; subst hz
  exact Go.of (fun _ q => XS.lxor X.here hx rfl (hb hby hd) rfl q) kk
theorem g_lneg (X : Stand p l e R s m args below meth c T locs cells slots) (hx : p.tables.exec = Jvm.exec) (hby : c.code = bs) {x z : Int64} (hd : decode bs pc = .ok (.lneg, 1)) (hp : pc + 1 = pc') (hz : -x = z) (kk : Go p.tables e below s Q C S (T.setTop (mkF m pc' Ls (.long z :: st)))) : Go p.tables e below s Q C S (T.setTop (mkF m pc Ls (.long x :: st))) := by
  subst hp; subst hz
  exact Go.of (fun _ q => XS.lneg X.here hx rfl (hb hby hd) rfl q) kk
theorem g_ldiv (X : Stand p l e R s m args below meth c T locs cells slots) (hx : p.tables.exec = Jvm.exec) (hby : c.code = bs) {x y z : Int64} (hd : decode bs pc = .ok (.ldiv, 1)) (hp : pc + 1 = pc') (hy : y ≠ 0) (hz : x / y = z) (kk : Go p.tables e below s Q C S (T.setTop (mkF m pc' Ls (.long z :: st)))) : Go p.tables e below s Q C S (T.setTop (mkF m pc Ls (.long y :: .long x :: st))) := by
  subst hp; subst hz
  exact Go.of (fun _ q => XS.ldiv X.here hx rfl (hb hby hd) rfl hy q) kk
theorem g_dloadN (X : Stand p l e R s m args below meth c T locs cells slots) (hx : p.tables.exec = Jvm.exec) (hby : c.code = bs) {k : Fin 4} {v : UInt64} (hd : decode bs pc = .ok (.dload_n k, 1)) (hp : pc + 1 = pc') (hl : Ls[k.val]? = some (.val (.double v))) (kk : Go p.tables e below s Q C S (T.setTop (mkF m pc' Ls (.double v :: st)))) : Go p.tables e below s Q C S (T.setTop (mkF m pc Ls (st))) := by
  subst hp
  exact Go.of (fun _ q => XS.dloadN X.here hx rfl (hb hby hd) hl q) kk
theorem g_dload (X : Stand p l e R s m args below meth c T locs cells slots) (hx : p.tables.exec = Jvm.exec) (hby : c.code = bs) {k : Nat} {v : UInt64} (hd : decode bs pc = .ok (.dload k, 2)) (hp : pc + 2 = pc') (hl : Ls[k]? = some (.val (.double v))) (kk : Go p.tables e below s Q C S (T.setTop (mkF m pc' Ls (.double v :: st)))) : Go p.tables e below s Q C S (T.setTop (mkF m pc Ls (st))) := by
  subst hp
  exact Go.of (fun _ q => XS.dload X.here hx rfl (hb hby hd) hl q) kk
theorem g_dstoreN (X : Stand p l e R s m args below meth c T locs cells slots) (hx : p.tables.exec = Jvm.exec) (hby : c.code = bs) {k : Fin 4} {v : UInt64} {L' : Array Slot} (hd : decode bs pc = .ok (.dstore_n k, 1)) (hp : pc + 1 = pc') (hl : storeLocals Ls k.val (.double v) = some L') (kk : Go p.tables e below s Q C S (T.setTop (mkF m pc' L' (st)))) : Go p.tables e below s Q C S (T.setTop (mkF m pc Ls (.double v :: st))) := by
  subst hp
  exact Go.of (fun _ q => XS.dstoreN X.here hx rfl (hb hby hd) rfl hl q) kk
theorem g_dstore (X : Stand p l e R s m args below meth c T locs cells slots) (hx : p.tables.exec = Jvm.exec) (hby : c.code = bs) {k : Nat} {v : UInt64} {L' : Array Slot} (hd : decode bs pc = .ok (.dstore k, 2)) (hp : pc + 2 = pc') (hl : storeLocals Ls k (.double v) = some L') (kk : Go p.tables e below s Q C S (T.setTop (mkF m pc' L' (st)))) : Go p.tables e below s Q C S (T.setTop (mkF m pc Ls (.double v :: st))) := by
  subst hp
  exact Go.of (fun _ q => XS.dstore X.here hx rfl (hb hby hd) rfl hl q) kk
theorem g_irem (X : Stand p l e R s m args below meth c T locs cells slots) (hx : p.tables.exec = Jvm.exec) (hby : c.code = bs) {x y z : Int32} (hd : decode bs pc = .ok (.irem, 1)) (hp : pc + 1 = pc') (hy : y ≠ 0) (hz : x % y = z) (kk : Go p.tables e below s Q C S (T.setTop (mkF m pc' Ls (.int z :: st)))) : Go p.tables e below s Q C S (T.setTop (mkF m pc Ls (.int y :: .int x :: st))) := by
  subst hp; subst hz
  exact Go.of (fun _ q => XS.irem X.here hx rfl (hb hby hd) rfl hy (by rw [irem_mod]; exact q)) kk
theorem g_ishl (X : Stand p l e R s m args below meth c T locs cells slots) (hx : p.tables.exec = Jvm.exec) (hby : c.code = bs) {x z : Int32} {y : Int32} (hd : decode bs pc = .ok (.ishl, 1)) (hp : pc + 1 = pc') (hz : x <<< (y &&& 31) = z) (kk : Go p.tables e below s Q C S (T.setTop (mkF m pc' Ls (.int z :: st)))) : Go p.tables e below s Q C S (T.setTop (mkF m pc Ls (.int y :: .int x :: st))) := by
  subst hp; subst hz
  exact Go.of (fun _ q => XS.ishl X.here hx rfl (hb hby hd) rfl q) kk
theorem g_ishr (X : Stand p l e R s m args below meth c T locs cells slots) (hx : p.tables.exec = Jvm.exec) (hby : c.code = bs) {x z : Int32} {y : Int32} (hd : decode bs pc = .ok (.ishr, 1)) (hp : pc + 1 = pc') (hz : x >>> (y &&& 31) = z) (kk : Go p.tables e below s Q C S (T.setTop (mkF m pc' Ls (.int z :: st)))) : Go p.tables e below s Q C S (T.setTop (mkF m pc Ls (.int y :: .int x :: st))) := by
  subst hp; subst hz
  exact Go.of (fun _ q => XS.ishr X.here hx rfl (hb hby hd) rfl q) kk
theorem g_iushr (X : Stand p l e R s m args below meth c T locs cells slots) (hx : p.tables.exec = Jvm.exec) (hby : c.code = bs) {x z : Int32} {y : Int32} (hd : decode bs pc = .ok (.iushr, 1)) (hp : pc + 1 = pc') (hz : (x.toUInt32 >>> (y &&& 31).toUInt32).toInt32 = z) (kk : Go p.tables e below s Q C S (T.setTop (mkF m pc' Ls (.int z :: st)))) : Go p.tables e below s Q C S (T.setTop (mkF m pc Ls (.int y :: .int x :: st))) := by
  subst hp; subst hz
  exact Go.of (fun _ q => XS.iushr X.here hx rfl (hb hby hd) rfl q) kk
theorem g_lshl (X : Stand p l e R s m args below meth c T locs cells slots) (hx : p.tables.exec = Jvm.exec) (hby : c.code = bs) {x z : Int64} {y : Int32} (hd : decode bs pc = .ok (.lshl, 1)) (hp : pc + 1 = pc') (hz : x <<< (y &&& 0x3f).toInt64 = z) (kk : Go p.tables e below s Q C S (T.setTop (mkF m pc' Ls (.long z :: st)))) : Go p.tables e below s Q C S (T.setTop (mkF m pc Ls (.int y :: .long x :: st))) := by
  subst hp; subst hz
  exact Go.of (fun _ q => XS.lshl X.here hx rfl (hb hby hd) rfl q) kk
theorem g_lshr (X : Stand p l e R s m args below meth c T locs cells slots) (hx : p.tables.exec = Jvm.exec) (hby : c.code = bs) {x z : Int64} {y : Int32} (hd : decode bs pc = .ok (.lshr, 1)) (hp : pc + 1 = pc') (hz : x >>> (y &&& 0x3f).toInt64 = z) (kk : Go p.tables e below s Q C S (T.setTop (mkF m pc' Ls (.long z :: st)))) : Go p.tables e below s Q C S (T.setTop (mkF m pc Ls (.int y :: .long x :: st))) := by
  subst hp; subst hz
  exact Go.of (fun _ q => XS.lshr X.here hx rfl (hb hby hd) rfl q) kk
theorem g_lushr (X : Stand p l e R s m args below meth c T locs cells slots) (hx : p.tables.exec = Jvm.exec) (hby : c.code = bs) {x z : Int64} {y : Int32} (hd : decode bs pc = .ok (.lushr, 1)) (hp : pc + 1 = pc') (hz : (x.toUInt64 >>> (y &&& 0x3f).toInt64.toUInt64).toInt64 = z) (kk : Go p.tables e below s Q C S (T.setTop (mkF m pc' Ls (.long z :: st)))) : Go p.tables e below s Q C S (T.setTop (mkF m pc Ls (.int y :: .long x :: st))) := by
  subst hp; subst hz
  exact Go.of (fun _ q => XS.lushr X.here hx rfl (hb hby hd) rfl q) kk
theorem g_i2l (X : Stand p l e R s m args below meth c T locs cells slots) (hx : p.tables.exec = Jvm.exec) (hby : c.code = bs) {x : Int32} {z : Int64} (hd : decode bs pc = .ok (.i2l, 1)) (hp : pc + 1 = pc') (hz : x.toInt64 = z) (kk : Go p.tables e below s Q C S (T.setTop (mkF m pc' Ls (.long z :: st)))) : Go p.tables e below s Q C S (T.setTop (mkF m pc Ls (.int x :: st))) := by
  subst hp; subst hz
  exact Go.of (fun _ q => XS.i2l X.here hx rfl (hb hby hd) rfl q) kk
theorem g_l2i (X : Stand p l e R s m args below meth c T locs cells slots) (hx : p.tables.exec = Jvm.exec) (hby : c.code = bs) {x : Int64} {z : Int32} (hd : decode bs pc = .ok (.l2i, 1)) (hp : pc + 1 = pc') (hz : x.toInt32 = z) (kk : Go p.tables e below s Q C S (T.setTop (mkF m pc' Ls (.int z :: st)))) : Go p.tables e below s Q C S (T.setTop (mkF m pc Ls (.long x :: st))) := by
  subst hp; subst hz
  exact Go.of (fun _ q => XS.l2i X.here hx rfl (hb hby hd) rfl q) kk
theorem g_i2b (X : Stand p l e R s m args below meth c T locs cells slots) (hx : p.tables.exec = Jvm.exec) (hby : c.code = bs) {x : Int32} {z : Int32} (hd : decode bs pc = .ok (.i2b, 1)) (hp : pc + 1 = pc') (hz : x.toInt8.toInt32 = z) (kk : Go p.tables e below s Q C S (T.setTop (mkF m pc' Ls (.int z :: st)))) : Go p.tables e below s Q C S (T.setTop (mkF m pc Ls (.int x :: st))) := by
  subst hp; subst hz
  exact Go.of (fun _ q => XS.i2b X.here hx rfl (hb hby hd) rfl q) kk
theorem g_i2c (X : Stand p l e R s m args below meth c T locs cells slots) (hx : p.tables.exec = Jvm.exec) (hby : c.code = bs) {x : Int32} {z : Int32} (hd : decode bs pc = .ok (.i2c, 1)) (hp : pc + 1 = pc') (hz : x.toUInt32.toUInt16.toUInt32.toInt32 = z) (kk : Go p.tables e below s Q C S (T.setTop (mkF m pc' Ls (.int z :: st)))) : Go p.tables e below s Q C S (T.setTop (mkF m pc Ls (.int x :: st))) := by
  subst hp; subst hz
  exact Go.of (fun _ q => XS.i2c X.here hx rfl (hb hby hd) rfl q) kk
theorem g_i2s (X : Stand p l e R s m args below meth c T locs cells slots) (hx : p.tables.exec = Jvm.exec) (hby : c.code = bs) {x : Int32} {z : Int32} (hd : decode bs pc = .ok (.i2s, 1)) (hp : pc + 1 = pc') (hz : x.toInt16.toInt32 = z) (kk : Go p.tables e below s Q C S (T.setTop (mkF m pc' Ls (.int z :: st)))) : Go p.tables e below s Q C S (T.setTop (mkF m pc Ls (.int x :: st))) := by
  subst hp; subst hz
  exact Go.of (fun _ q => XS.i2s X.here hx rfl (hb hby hd) rfl q) kk
theorem g_lcmp (X : Stand p l e R s m args below meth c T locs cells slots) (hx : p.tables.exec = Jvm.exec) (hby : c.code = bs) {x y : Int64} (hd : decode bs pc = .ok (.lcmp, 1)) (hp : pc + 1 = pc')  (kk : Go p.tables e below s Q C S (T.setTop (mkF m pc' Ls (.int (lcmpW x y) :: st)))) : Go p.tables e below s Q C S (T.setTop (mkF m pc Ls (.long y :: .long x :: st))) := by
  subst hp
  exact Go.of (fun _ q => XS.lcmp X.here hx rfl (hb hby hd) rfl q) kk
theorem g_aloadN (X : Stand p l e R s m args below meth c T locs cells slots) (hx : p.tables.exec = Jvm.exec) (hby : c.code = bs) {k : Fin 4} {v : Value} (hd : decode bs pc = .ok (.aload_n k, 1)) (hp : pc + 1 = pc') (hl : Ls[k.val]? = some (.val v)) (hr : v.isRef = true) (kk : Go p.tables e below s Q C S (T.setTop (mkF m pc' Ls (v :: st)))) : Go p.tables e below s Q C S (T.setTop (mkF m pc Ls (st))) := by
  subst hp
  exact Go.of (fun _ q => XS.aloadN X.here hx rfl (hb hby hd) hl hr q) kk
theorem g_aload (X : Stand p l e R s m args below meth c T locs cells slots) (hx : p.tables.exec = Jvm.exec) (hby : c.code = bs) {k : Nat} {v : Value} (hd : decode bs pc = .ok (.aload k, 2)) (hp : pc + 2 = pc') (hl : Ls[k]? = some (.val v)) (hr : v.isRef = true) (kk : Go p.tables e below s Q C S (T.setTop (mkF m pc' Ls (v :: st)))) : Go p.tables e below s Q C S (T.setTop (mkF m pc Ls (st))) := by
  subst hp
  exact Go.of (fun _ q => XS.aload X.here hx rfl (hb hby hd) hl hr q) kk
theorem g_astoreN (X : Stand p l e R s m args below meth c T locs cells slots) (hx : p.tables.exec = Jvm.exec) (hby : c.code = bs) {k : Fin 4} {v : Value} {L' : Array Slot} (hd : decode bs pc = .ok (.astore_n k, 1)) (hp : pc + 1 = pc') (hr : v.isRef = true) (hl : storeLocals Ls k.val v = some L') (kk : Go p.tables e below s Q C S (T.setTop (mkF m pc' L' (st)))) : Go p.tables e below s Q C S (T.setTop (mkF m pc Ls (v :: st))) := by
  subst hp
  exact Go.of (fun _ q => XS.astoreN X.here hx rfl (hb hby hd) rfl hr hl q) kk
theorem g_astore (X : Stand p l e R s m args below meth c T locs cells slots) (hx : p.tables.exec = Jvm.exec) (hby : c.code = bs) {k : Nat} {v : Value} {L' : Array Slot} (hd : decode bs pc = .ok (.astore k, 2)) (hp : pc + 2 = pc') (hr : v.isRef = true) (hl : storeLocals Ls k v = some L') (kk : Go p.tables e below s Q C S (T.setTop (mkF m pc' L' (st)))) : Go p.tables e below s Q C S (T.setTop (mkF m pc Ls (v :: st))) := by
  subst hp
  exact Go.of (fun _ q => XS.astore X.here hx rfl (hb hby hd) rfl hr hl q) kk
theorem g_iconst (X : Stand p l e R s m args below meth c T locs cells slots) (hx : p.tables.exec = Jvm.exec) (hby : c.code = bs) {i : Int} {z : Int32} (hd : decode bs pc = .ok (.iconst i, 1)) (hp : pc + 1 = pc') (hz : Int32.ofInt i = z) (kk : Go p.tables e below s Q C S (T.setTop (mkF m pc' Ls (.int z :: st)))) : Go p.tables e below s Q C S (T.setTop (mkF m pc Ls (st))) := by
  subst hp; subst hz
  exact Go.of (fun _ q => XS.iconst X.here hx rfl (hb hby hd) q) kk
theorem g_bipush (X : Stand p l e R s m args below meth c T locs cells slots) (hx : p.tables.exec = Jvm.exec) (hby : c.code = bs) {i : Int} {z : Int32} (hd : decode bs pc = .ok (.bipush i, 2)) (hp : pc + 2 = pc') (hz : (Int8.ofInt i).toInt32 = z) (kk : Go p.tables e below s Q C S (T.setTop (mkF m pc' Ls (.int z :: st)))) : Go p.tables e below s Q C S (T.setTop (mkF m pc Ls (st))) := by
  subst hp; subst hz
  exact Go.of (fun _ q => XS.bipush X.here hx rfl (hb hby hd) q) kk
theorem g_sipush (X : Stand p l e R s m args below meth c T locs cells slots) (hx : p.tables.exec = Jvm.exec) (hby : c.code = bs) {i : Int} {z : Int32} (hd : decode bs pc = .ok (.sipush i, 3)) (hp : pc + 3 = pc') (hz : (Int16.ofInt i).toInt32 = z) (kk : Go p.tables e below s Q C S (T.setTop (mkF m pc' Ls (.int z :: st)))) : Go p.tables e below s Q C S (T.setTop (mkF m pc Ls (st))) := by
  subst hp; subst hz
  exact Go.of (fun _ q => XS.sipush X.here hx rfl (hb hby hd) q) kk
theorem g_aconst_null (X : Stand p l e R s m args below meth c T locs cells slots) (hx : p.tables.exec = Jvm.exec) (hby : c.code = bs)  (hd : decode bs pc = .ok (.aconst_null, 1)) (hp : pc + 1 = pc')  (kk : Go p.tables e below s Q C S (T.setTop (mkF m pc' Ls (.null :: st)))) : Go p.tables e below s Q C S (T.setTop (mkF m pc Ls (st))) := by
  subst hp
  exact Go.of (fun _ q => XS.aconstNull X.here hx rfl (hb hby hd) q) kk
theorem g_iinc (X : Stand p l e R s m args below meth c T locs cells slots) (hx : p.tables.exec = Jvm.exec) (hby : c.code = bs) {k : Nat} {i : Int} {x : Int32} {L' : Array Slot} (hd : decode bs pc = .ok (.iinc k i, 3)) (hp : pc + 3 = pc') (hl : Ls[k]? = some (.val (.int x))) (hl' : storeLocals Ls k (.int (x + Int32.ofInt i)) = some L') (kk : Go p.tables e below s Q C S (T.setTop (mkF m pc' L' (st)))) : Go p.tables e below s Q C S (T.setTop (mkF m pc Ls (st))) := by
  subst hp
  exact Go.of (fun _ q => XS.iinc X.here hx rfl (hb hby hd) hl hl' q) kk
theorem g_dup (X : Stand p l e R s m args below meth c T locs cells slots) (hx : p.tables.exec = Jvm.exec) (hby : c.code = bs) {v : Value} (hd : decode bs pc = .ok (.dup, 1)) (hp : pc + 1 = pc') (hc : v.category = 1) (kk : Go p.tables e below s Q C S (T.setTop (mkF m pc' Ls (v :: v :: st)))) : Go p.tables e below s Q C S (T.setTop (mkF m pc Ls (v :: st))) := by
  subst hp
  exact Go.of (fun _ q => XS.dup X.here hx rfl (hb hby hd) rfl hc q) kk
theorem g_pop (X : Stand p l e R s m args below meth c T locs cells slots) (hx : p.tables.exec = Jvm.exec) (hby : c.code = bs) {v : Value} (hd : decode bs pc = .ok (.pop, 1)) (hp : pc + 1 = pc') (hc : v.category = 1) (kk : Go p.tables e below s Q C S (T.setTop (mkF m pc' Ls (st)))) : Go p.tables e below s Q C S (T.setTop (mkF m pc Ls (v :: st))) := by
  subst hp
  exact Go.of (fun _ q => XS.pop X.here hx rfl (hb hby hd) rfl hc q) kk
theorem g_dup_x1 (X : Stand p l e R s m args below meth c T locs cells slots) (hx : p.tables.exec = Jvm.exec) (hby : c.code = bs) {v w : Value} (hd : decode bs pc = .ok (.dup_x1, 1)) (hp : pc + 1 = pc') (hc : v.category = 1) (hc' : w.category = 1) (kk : Go p.tables e below s Q C S (T.setTop (mkF m pc' Ls (v :: w :: v :: st)))) : Go p.tables e below s Q C S (T.setTop (mkF m pc Ls (v :: w :: st))) := by
  subst hp
  exact Go.of (fun _ q => XS.dupX1 X.here hx rfl (hb hby hd) rfl hc hc' q) kk
theorem g_dup2 (X : Stand p l e R s m args below meth c T locs cells slots) (hx : p.tables.exec = Jvm.exec) (hby : c.code = bs) {v w : Value} (hd : decode bs pc = .ok (.dup2, 1)) (hp : pc + 1 = pc') (hc : v.category = 1) (hc' : w.category = 1) (kk : Go p.tables e below s Q C S (T.setTop (mkF m pc' Ls (v :: w :: v :: w :: st)))) : Go p.tables e below s Q C S (T.setTop (mkF m pc Ls (v :: w :: st))) := by
  subst hp
  exact Go.of (fun _ q => Jvm.Free.XT.dup2 X.here hx rfl (hb hby hd) rfl hc hc' q) kk
theorem g_goto (X : Stand p l e R s m args below meth c T locs cells slots) (hx : p.tables.exec = Jvm.exec) (hby : c.code = bs) {o : Int} (hd : decode bs pc = .ok (.goto o, 3)) (h0 : 0 ≤ (pc : Int) + o) (hp : ((pc : Int) + o).toNat = pc') (kk : Go p.tables e below s Q C S (T.setTop (mkF m pc' Ls st))) : Go p.tables e below s Q C S (T.setTop (mkF m pc Ls st)) :=
  Go.of (fun _ q => XS.goto X.here hx rfl (pc0 := pc) (pc' := pc') rfl (hb hby hd) h0 hp q) kk
theorem g_ifYes (X : Stand p l e R s m args below meth c T locs cells slots) (hx : p.tables.exec = Jvm.exec) (hby : c.code = bs) {cd : ClassFile.Cond} {x : Int32} {o : Int} (hd : decode bs pc = .ok (.ifCond cd o, 3)) (hc : if_icmp.holds cd x 0 = true) (h0 : 0 ≤ (pc : Int) + o) (hp : ((pc : Int) + o).toNat = pc') (kk : Go p.tables e below s Q C S (T.setTop (mkF m pc' Ls st))) : Go p.tables e below s Q C S (T.setTop (mkF m pc Ls (.int x :: st))) :=
  Go.of (fun _ q => XS.ifYes X.here hx rfl (pc0 := pc) (pc' := pc') rfl (hb hby hd) rfl ((if0 _ _).trans hc) h0 hp q) kk
theorem g_ifNo (X : Stand p l e R s m args below meth c T locs cells slots) (hx : p.tables.exec = Jvm.exec) (hby : c.code = bs) {cd : ClassFile.Cond} {x : Int32} {o : Int} (hd : decode bs pc = .ok (.ifCond cd o, 3)) (hc : if_icmp.holds cd x 0 = false) (hp : pc + 3 = pc') (kk : Go p.tables e below s Q C S (T.setTop (mkF m pc' Ls st))) : Go p.tables e below s Q C S (T.setTop (mkF m pc Ls (.int x :: st))) := by
  subst hp
  exact Go.of (fun _ q => XS.ifNo X.here hx rfl (hb hby hd) rfl ((if0 _ _).trans hc) q) kk
theorem g_icmpYes (X : Stand p l e R s m args below meth c T locs cells slots) (hx : p.tables.exec = Jvm.exec) (hby : c.code = bs) {cd : ClassFile.Cond} {x y : Int32} {o : Int} (hd : decode bs pc = .ok (.if_icmp cd o, 3)) (hc : if_icmp.holds cd x y = true) (h0 : 0 ≤ (pc : Int) + o) (hp : ((pc : Int) + o).toNat = pc') (kk : Go p.tables e below s Q C S (T.setTop (mkF m pc' Ls st))) : Go p.tables e below s Q C S (T.setTop (mkF m pc Ls (.int y :: .int x :: st))) :=
  Go.of (fun _ q => XS.icmpYes X.here hx rfl (pc0 := pc) (pc' := pc') rfl (hb hby hd) rfl hc h0 hp q) kk
theorem g_icmpNo (X : Stand p l e R s m args below meth c T locs cells slots) (hx : p.tables.exec = Jvm.exec) (hby : c.code = bs) {cd : ClassFile.Cond} {x y : Int32} {o : Int} (hd : decode bs pc = .ok (.if_icmp cd o, 3)) (hc : if_icmp.holds cd x y = false) (hp : pc + 3 = pc') (kk : Go p.tables e below s Q C S (T.setTop (mkF m pc' Ls st))) : Go p.tables e below s Q C S (T.setTop (mkF m pc Ls (.int y :: .int x :: st))) := by
  subst hp
  exact Go.of (fun _ q => XS.icmpNo X.here hx rfl (hb hby hd) rfl hc q) kk
theorem g_ldcI (X : Stand p l e R s m args below meth c T locs cells slots) (hx : p.tables.exec = Jvm.exec) (hby : c.code = bs) (hZ : Z.Warmed39 s.vm) (hown : s.vm.findClass own = some m.cls) {i : Nat} {z : Int32} (w : (Cond.constant own i z).before a0 Z = true) (hd : decode bs pc = .ok (.ldc i, 2)) (hp : pc + 2 = pc') (kk : Go p.tables e below s Q C S (T.setTop (mkF m pc' Ls (.int z :: st)))) : Go p.tables e below s Q C S (T.setTop (mkF m pc Ls st)) := by
  subst hp
  exact Go.of (fun _ q => X.ldcInt hx hown (mvT hZ w) (g := mkF m pc Ls st) rfl (hb hby hd) _ q) kk
theorem g_ldcwI (X : Stand p l e R s m args below meth c T locs cells slots) (hx : p.tables.exec = Jvm.exec) (hby : c.code = bs) (hZ : Z.Warmed39 s.vm) (hown : s.vm.findClass own = some m.cls) {i : Nat} {z : Int32} (w : (Cond.constant own i z).before a0 Z = true) (hd : decode bs pc = .ok (.ldc_w i, 3)) (hp : pc + 3 = pc') (kk : Go p.tables e below s Q C S (T.setTop (mkF m pc' Ls (.int z :: st)))) : Go p.tables e below s Q C S (T.setTop (mkF m pc Ls st)) := by
  subst hp
  exact Go.of (fun _ q => X.ldcwInt hx hown (mvT hZ w) (g := mkF m pc Ls st) rfl (hb hby hd) _ q) kk
theorem g_ldcL (X : Stand p l e R s m args below meth c T locs cells slots) (hx : p.tables.exec = Jvm.exec) (hby : c.code = bs) (hZ : Z.Warmed39 s.vm) (hown : s.vm.findClass own = some m.cls) {i : Nat} {z : Int64} (w : (Cond.constantLong own i z).before a0 Z = true) (hd : decode bs pc = .ok (.ldc2_w i, 3)) (hp : pc + 3 = pc') (kk : Go p.tables e below s Q C S (T.setTop (mkF m pc' Ls (.long z :: st)))) : Go p.tables e below s Q C S (T.setTop (mkF m pc Ls st)) := by
  subst hp
  exact Go.of (fun _ q => X.ldc2Long hx hown (mvT hZ w) (g := mkF m pc Ls st) rfl (hb hby hd) _ q) kk
theorem g_ldcD (X : Stand p l e R s m args below meth c T locs cells slots) (hx : p.tables.exec = Jvm.exec) (hby : c.code = bs) (hZ : Z.Warmed39 s.vm) (hown : s.vm.findClass own = some m.cls) {i : Nat} {z : UInt64} (w : (Cond.constantDouble own i z).before a0 Z = true) (hd : decode bs pc = .ok (.ldc2_w i, 3)) (hp : pc + 3 = pc') (kk : Go p.tables e below s Q C S (T.setTop (mkF m pc' Ls (.double z :: st)))) : Go p.tables e below s Q C S (T.setTop (mkF m pc Ls st)) := by
  subst hp
  exact Go.of (fun _ q => X.ldc2DoubleC hx hown (mvT hZ w) (g := mkF m pc Ls st) rfl (hb hby hd) _ q) kk
theorem g_getf (X : Stand p l e R s m args below meth c T locs cells slots) (hx : p.tables.exec = Jvm.exec) (hby : c.code = bs) (hZ : Z.Warmed39 s.vm) {R0 O n d host : String} {i : Nat} (hown : s.vm.findClass own = some m.cls) (w : (Cond.fieldLink own i R0 n d).before a0 Z = true ∨ (Cond.fieldLinkNest own i R0 n d host).before a0 Z = true) (via : Via Z R0 O n d) (eT : T.heap = h) {a : Addr} {v : Value} (F : Fld Z h a O n d v) (hd : decode bs pc = .ok (.getfield i, 3)) (hp : pc + 3 = pc') (kk : ∀ T', Stand p l e R s m args below meth c T' locs cells slots → T'.heap = h → Go p.tables e below s Q C S (T'.setTop (mkF m pc' Ls (v :: st)))) : Go p.tables e below s Q C S (T.setTop (mkF m pc Ls (.ref a :: st))) := by
  subst hp
  obtain ⟨T', X', e', q⟩ := getF X hx hZ hown w via eT F (g := mkF m pc Ls (.ref a :: st)) rfl rfl (hb hby hd)
  exact Go.of q (kk T' X' e')
theorem g_putf (X : Stand p l e R s m args below meth c T locs cells slots) (hx : p.tables.exec = Jvm.exec) (hby : c.code = bs) (hZ : Z.Warmed39 s.vm) {R0 O n d host : String} {i : Nat} (hown : s.vm.findClass own = some m.cls) (w : (Cond.fieldLink own i R0 n d).before a0 Z = true ∨ (Cond.fieldLinkNest own i R0 n d host).before a0 Z = true) (via : Via Z R0 O n d) (eT : T.heap = h) {a : Addr} {v old : Value} {K : String} {kk' : Nat} {ty : FieldType} (F : Fld Z h a O n d old) (E : Exa Z h a K) (L : (Cond.lays K O n d).before a0 Z = true ∨ ((Cond.laysFinal K O n d).before a0 Z = true ∧ own = O ∧ meth.name = "<init>")) (wi : (Cond.instantiable K kk').before a0 Z = true) (hty : parseFieldDescriptor d = some ty) (hn : narrow ty v = v) (hf : fits ty v = true) (hd : decode bs pc = .ok (.putfield i, 3)) (hp : pc + 3 = pc')
    (kk : ∀ T' h', Stand p l e R s m args below meth c T' (locs ++ [⟨a, Jvm.RoadKit.slotOf Z O n d⟩]) cells slots → T'.heap = h' → Wr h h' a (Jvm.RoadKit.slotOf Z O n d) v → Fld Z h' a O n d v → Go p.tables e below s Q C S (T'.setTop (mkF m pc' Ls st))) : Go p.tables e below s Q C S (T.setTop (mkF m pc Ls (v :: .ref a :: st))) := by
  subst hp
  obtain ⟨T', h', X', e', W, q⟩ := putF X hx hZ hown w via eT F E L wi hty hn hf (g := mkF m pc Ls (v :: .ref a :: st)) rfl rfl (hb hby hd)
  exact Go.of q (kk T' h' X' e' W (F.same W))
theorem g_new (X : Stand p l e R s m args below meth c T locs cells slots) (hx : p.tables.exec = Jvm.exec) (hby : c.code = bs) (hZ : Z.Warmed39 s.vm) {K : String} {i n : Nat} (hown : s.vm.findClass own = some m.cls) (w : (Cond.classLink own i K).before a0 Z = true) (wi : (Cond.instantiable K n).before a0 Z = true) (wz : (Cond.initialized K).before a0 Z = true) (eT : T.heap = h) (hd : decode bs pc = .ok (.new i, 3)) (hp : pc + 3 = pc') (hc : cells + 1 ≤ R.cells) (hl : slots + n ≤ R.slots)
    (kk : ∀ T' h' b, Stand p l e R s m args below meth c T' locs (cells + 1) (slots + n) → T'.heap = h' → Ext h h' → b = h.size → Exa Z h' b K → (∀ {O nm d : String} {ty : FieldType}, Laid Z a0 K O nm d → parseFieldDescriptor d = some ty → Fld Z h' b O nm d (defaultValue ty)) → Go p.tables e below s Q C S (T'.setTop (mkF m pc' Ls (.ref b :: st)))) : Go p.tables e below s Q C S (T.setTop (mkF m pc Ls st)) := by
  subst hp
  obtain ⟨T', h', X', e', E, A, D, -, q⟩ := newO X hx hZ hown w wi wz eT (g := mkF m pc Ls st) rfl (hb hby hd) hc hl
  exact Go.of q (kk T' h' h.size X' e' E rfl A D)
theorem g_init (X : Stand p l e R s m args below meth c T locs cells slots) (hx : p.tables.exec = Jvm.exec) (hby : c.code = bs) (hZ : Z.Warmed39 s.vm) {i : Nat} (hown : s.vm.findClass own = some m.cls) (w1 : (Cond.methodLink own i Lib.objectInit).before a0 Z = true) (w2 : (Cond.instanceMethod Lib.objectInit).before a0 Z = true) (w3 : (Cond.code Lib.objectInit ⟨#[0xb1]⟩ 1 none).before a0 Z = true) (eT : T.heap = h) {a : Addr} {W : Nat} (hsz : Ls.size = c.maxLocals) (hd : decode bs pc = .ok (.invokespecial i, 3)) (hp : pc + 3 = pc') (hf : 1 ≤ R.frames) (hW : (st.map fun v => v.category).sum = W) (hl : W + 12 ≤ R.locals) (kk : ∀ T', Stand p l e R s m args below meth c T' locs cells slots → T'.heap = h → Go p.tables e below s Q C S (T'.setTop (mkF m pc' Ls st))) : Go p.tables e below s Q C S (T.setTop (mkF m pc Ls (.ref a :: st))) := by
  subst hp
  obtain ⟨T', X', e', q⟩ := initO X hx hZ hown w1 w2 w3 eT (g := mkF m pc Ls (.ref a :: st)) rfl hsz rfl (hb hby hd) hf (W := W) (by show 2 * 0 + _ ≤ _; rw [hW]; omega) hl
  exact Go.of q (kk T' X' e')
end Steps1
end Jvm.OwnKit
namespace Jvm.Pilot.@@N@@
open Jvm Jvm.ClassFile Sem Op Lib Jvm.Free Jvm.Stand Jvm.LawKit Jvm.RoadKit Jvm.OwnKit Bundle Jvm.Pilot.@@N@@.Jvm.D
theorem wi {a0 : Array Value} {Z : State} (hw : ∀ d ∈ tables_1, d.before a0 Z = true) {d : Jvm.Cond} (i : Nat) (h : tables_1[i]? = some d) : d.before a0 Z = true := hw d (List.mem_of_getElem? h)
def own_nb (x : Int32) : Int32 := x.toInt8.toInt32
def own_zz (a : Int64) : Int64 := (a <<< ((1 : Int32) &&& 0x3f).toInt64) ^^^ (a >>> ((63 : Int32) &&& 0x3f).toInt64)
def own_uz (z : Int64) : Int64 := ((z.toUInt64 >>> ((1 : Int32) &&& 0x3f).toInt64.toUInt64).toInt64) ^^^ (-(z &&& (1 : Int64)))
theorem own_one64 : ∀ j : Nat, (h : j < 64) → (1#64)[j] = decide (j = 0) := by decide
theorem own_all64 : ∀ j : Nat, (h : j < 64) → (18446744073709551615#64)[j] = true := by decide
theorem own_uz_zz (a : Int64) : own_uz (own_zz a) = a := by
  apply Int64.toBitVec_inj.mp
  show ((a.toBitVec <<< 1 ^^^ a.toBitVec.sshiftRight 63) >>> 1) ^^^ (-((a.toBitVec <<< 1 ^^^ a.toBitVec.sshiftRight 63) &&& 1#64)) = a.toBitVec
  generalize a.toBitVec = y
  cases hm : y.msb
  · have h1 : y.sshiftRight 63 = 0#64 := by
      ext i hi
      simp [BitVec.getElem_sshiftRight, hm]
      intro h; have : i = 0 := by omega
      subst this; simpa [BitVec.msb_eq_getLsbD_last] using hm
    have h2 : (y <<< 1 ^^^ 0#64) &&& 1#64 = 0#64 := by
      ext i hi
      simp only [BitVec.getElem_and, own_one64 i hi]
      by_cases h : i = 0 <;> simp [h]
    rw [h1, h2]
    ext i hi
    simp
    by_cases h : 1 + i < 64
    · simp [h, BitVec.getLsbD_eq_getElem hi]
    · have : i = 63 := by omega
      subst this; simp; simpa [BitVec.msb_eq_getLsbD_last] using hm
  · have h1 : y.sshiftRight 63 = BitVec.allOnes 64 := by
      ext i hi
      simp [BitVec.getElem_sshiftRight, hm, own_all64 i hi]
      intro h; have : i = 0 := by omega
      subst this; simpa [BitVec.msb_eq_getLsbD_last] using hm
    have h2 : (y <<< 1 ^^^ BitVec.allOnes 64) &&& 1#64 = 1#64 := by
      ext i hi
      simp only [BitVec.getElem_and, own_one64 i hi]
      by_cases h : i = 0 <;> simp [h]
    rw [h1, h2]
    have h3 : -(1#64) = BitVec.allOnes 64 := by decide
    rw [h3]
    ext i hi
    simp [own_all64 i hi]
    by_cases h : 1 + i < 64
    · simp [h, BitVec.getLsbD_eq_getElem hi, own_all64 (1 + i) h]
    · have : i = 63 := by omega
      subst this; simp; simpa [BitVec.msb_eq_getLsbD_last] using hm
def own_U (u : Int64) : Nat := u.toBitVec.toNat
theorem own_U_lt (u : Int64) : own_U u < 2 ^ 64 := u.toBitVec.isLt
theorem own_shr7 (u : Int64) : own_U ((u.toUInt64 >>> ((7 : Int32) &&& 0x3f).toInt64.toUInt64).toInt64) = own_U u / 128 := by
  show (u.toBitVec >>> 7).toNat = _
  rw [BitVec.toNat_ushiftRight, Nat.shiftRight_eq_div_pow]; rfl
theorem own_m128 : ∀ j : Nat, (h : j < 64) → (18446744073709551488#64)[j] = decide (7 ≤ j) := by decide
theorem own_tst (u : Int64) : (u &&& (-128 : Int64)).toInt = 0 ↔ own_U u < 128 := by
  have e : (u &&& (-128 : Int64)).toInt = (u.toBitVec &&& 18446744073709551488#64).toInt := rfl
  rw [e]
  unfold own_U
  generalize u.toBitVec = y
  constructor
  · intro h
    have h0 : y &&& 18446744073709551488#64 = 0#64 := by
      apply BitVec.toInt_inj.mp; rw [h]; rfl
    have h1 : y >>> 7 = 0#64 := by
      ext i hi
      simp
      by_cases hh : 7 + i < 64
      · have := congrArg (fun z : BitVec 64 => z[7 + i]) h0
        simp only [BitVec.getElem_and, own_m128 (7 + i) hh] at this
        simpa [BitVec.getLsbD_eq_getElem hh] using this
      · simp [BitVec.getLsbD_of_ge _ _ (by omega : 64 ≤ 7 + i)]
    have h2 := congrArg BitVec.toNat h1
    rw [BitVec.toNat_ushiftRight, Nat.shiftRight_eq_div_pow] at h2
    simp at h2; omega
  · intro h
    have h0 : y &&& 18446744073709551488#64 = 0#64 := by
      ext i hi
      simp only [BitVec.getElem_and, own_m128 i hi]
      by_cases h7 : 7 ≤ i
      · have : y[i] = false := by
          rw [← BitVec.getLsbD_eq_getElem hi]
          show y.toNat.testBit i = false
          apply Nat.testBit_lt_two_pow
          exact Nat.lt_of_lt_of_le h (by rw [show (128 : Nat) = 2 ^ 7 from rfl]; exact Nat.pow_le_pow_right (by decide) h7)
        simp [this]
      · simp [h7]
    rw [h0]; rfl
def own_byM (M : Nat) : Int32 := own_nb (Int32.ofNat (if 128 ≤ M then M % 128 + 128 else M))
theorem own_nbnb (x : Int32) : own_nb (own_nb x) = own_nb x := by
  apply Int32.toBitVec_inj.mp
  show BitVec.signExtend 32 (BitVec.signExtend 8 (BitVec.signExtend 32 (BitVec.signExtend 8 x.toBitVec))) = BitVec.signExtend 32 (BitVec.signExtend 8 x.toBitVec)
  have e2 : ∀ z : BitVec 8, BitVec.signExtend 8 (BitVec.signExtend 32 z) = z := fun z => by
    rw [BitVec.signExtend_eq_setWidth_of_le _ (by decide)]
    ext i hi; have : i < 32 := by omega
    simp [BitVec.getElem_signExtend, hi, this]
  rw [e2]
theorem own_last (u : Int64) (h : own_U u < 128) : own_nb (own_nb u.toInt32) = own_byM (own_U u) := by
  rw [own_nbnb, own_byM, if_neg (by omega)]
  congr 1
  apply Int32.toBitVec_inj.mp
  show BitVec.signExtend 32 u.toBitVec = BitVec.ofNat 32 (own_U u)
  rw [BitVec.signExtend_eq_setWidth_of_le _ (by decide)]
  apply BitVec.eq_of_toNat_eq
  rw [BitVec.toNat_setWidth, BitVec.toNat_ofNat]; rfl
theorem own_more (u : Int64) (h : ¬ own_U u < 128) : own_nb (own_nb (((u &&& (127 : Int64)) ||| (128 : Int64)).toInt32)) = own_byM (own_U u) := by
  rw [own_nbnb, own_byM, if_pos (by omega)]
  congr 1
  apply Int32.toBitVec_inj.mp
  show BitVec.signExtend 32 ((u.toBitVec &&& 127#64) ||| 128#64) = BitVec.ofNat 32 (own_U u % 128 + 128)
  rw [BitVec.signExtend_eq_setWidth_of_le _ (by decide)]
  apply BitVec.eq_of_toNat_eq
  rw [BitVec.toNat_setWidth, BitVec.toNat_ofNat, BitVec.toNat_or, BitVec.toNat_and]
  have e1 : u.toBitVec.toNat &&& (127#64).toNat = own_U u % 128 := Nat.and_two_pow_sub_one_eq_mod _ 7
  have e2 : (128#64).toNat = 1 <<< 7 := rfl
  rw [e1, e2, Nat.or_comm, ← Nat.shiftLeft_add_eq_or_of_lt (by omega)]
  simp [Nat.add_comm]
set_option maxRecDepth 100000 in
theorem own_by_all : ∀ k : Fin 256, ((own_nb (Int32.ofNat k)).toInt < 0 ↔ 128 ≤ k.val) ∧ ((own_nb (Int32.ofNat k)) &&& (127 : Int32)).toInt64.toBitVec.toNat = k.val % 128 := by decide
theorem own_by_neg (M : Nat) : ((own_byM M).toInt < 0 ↔ 128 ≤ M) ∧ own_U ((own_byM M &&& (127 : Int32)).toInt64) = M % 128 := by
  unfold own_byM own_U
  by_cases h : 128 ≤ M
  · have := own_by_all ⟨M % 128 + 128, by omega⟩
    simp only [h, if_true] at this ⊢
    refine ⟨⟨fun _ => trivial, fun _ => this.1.mpr (by omega)⟩, ?_⟩
    rw [this.2]; omega
  · have := own_by_all ⟨M, by omega⟩
    simp only [h, if_false] at this ⊢
    refine ⟨⟨fun q => this.1.mp q, fun q => q.elim⟩, this.2⟩
theorem own_acc (N j : Nat) (hN : N < 2 ^ 64) (hj : j ≤ 9) (acc b : Int64) (s : Int32) (hs : s.toInt = 7 * (j : Int)) (ha : own_U acc = N % 128 ^ j) (hb : own_U b = N / 128 ^ j % 128) : own_U (acc ||| (b <<< (s &&& 0x3f).toInt64)) = N % 128 ^ (j + 1) := by
  have hc : j = 0 ∨ j = 1 ∨ j = 2 ∨ j = 3 ∨ j = 4 ∨ j = 5 ∨ j = 6 ∨ j = 7 ∨ j = 8 ∨ j = 9 := by omega
  have key : ∀ k : Nat, k < 64 → 128 ^ j = 2 ^ k → (acc ||| (b <<< (s &&& 0x3f).toInt64)).toBitVec = acc.toBitVec ||| (b.toBitVec <<< k) → own_U (acc ||| (b <<< (s &&& 0x3f).toInt64)) = N % 128 ^ (j + 1) := by
    intro k hk e he
    show (acc ||| (b <<< (s &&& 0x3f).toInt64)).toBitVec.toNat = _
    rw [he, BitVec.toNat_or, BitVec.toNat_shiftLeft]
    have h1 : acc.toBitVec.toNat = N % 2 ^ k := by rw [← e]; exact ha
    have h2 : b.toBitVec.toNat = N / 2 ^ k % 128 := by rw [← e]; exact hb
    rw [h1, h2, show 128 ^ (j + 1) = 2 ^ k * 128 by rw [Nat.pow_succ, e]]
    have h3 : (N / 2 ^ k % 128) * 2 ^ k < 2 ^ 64 := by
      have : N / 2 ^ k % 128 ≤ N / 2 ^ k := Nat.mod_le _ _
      have h4 : N / 2 ^ k * 2 ^ k ≤ N := Nat.div_mul_le_self _ _
      exact Nat.lt_of_le_of_lt (Nat.le_trans (Nat.mul_le_mul_right _ this) h4) hN
    rw [Nat.shiftLeft_eq, Nat.mod_eq_of_lt h3, ← Nat.shiftLeft_eq, Nat.or_comm, ← Nat.shiftLeft_add_eq_or_of_lt (Nat.mod_lt _ (Nat.two_pow_pos k)), Nat.shiftLeft_eq, Nat.mod_mul]
    rw [Nat.mul_comm, Nat.add_comm]
  rcases hc with rfl | rfl | rfl | rfl | rfl | rfl | rfl | rfl | rfl | rfl
  all_goals
    first
    | (have hs' : s = 0 := Int32.toInt_inj.mp hs
       subst hs'; exact key 0 (by decide) (by decide) rfl)
    | (have hs' : s = 7 := Int32.toInt_inj.mp hs
       subst hs'; exact key 7 (by decide) (by decide) rfl)
    | (have hs' : s = 14 := Int32.toInt_inj.mp hs
       subst hs'; exact key 14 (by decide) (by decide) rfl)
    | (have hs' : s = 21 := Int32.toInt_inj.mp hs
       subst hs'; exact key 21 (by decide) (by decide) rfl)
    | (have hs' : s = 28 := Int32.toInt_inj.mp hs
       subst hs'; exact key 28 (by decide) (by decide) rfl)
    | (have hs' : s = 35 := Int32.toInt_inj.mp hs
       subst hs'; exact key 35 (by decide) (by decide) rfl)
    | (have hs' : s = 42 := Int32.toInt_inj.mp hs
       subst hs'; exact key 42 (by decide) (by decide) rfl)
    | (have hs' : s = 49 := Int32.toInt_inj.mp hs
       subst hs'; exact key 49 (by decide) (by decide) rfl)
    | (have hs' : s = 56 := Int32.toInt_inj.mp hs
       subst hs'; exact key 56 (by decide) (by decide) rfl)
    | (have hs' : s = 63 := Int32.toInt_inj.mp hs
       subst hs'; exact key 63 (by decide) (by decide) rfl)
theorem own_j9 (N j : Nat) (hN : N < 2 ^ 64) (hj : j ≤ 9) (h : 128 ≤ N / 128 ^ j) : j < 9 := by
  rcases Nat.lt_or_ge j 9 with q | q
  · exact q
  · have : j = 9 := by omega
    subst this
    have : N / 128 ^ 9 < 2 := Nat.div_lt_of_lt_mul (by omega)
    omega
theorem own_div (N j : Nat) : N / 128 ^ j / 128 = N / 128 ^ (j + 1) := by rw [Nat.div_div_eq_div_mul, ← Nat.pow_succ]
theorem own_mod (N j : Nat) (h : N / 128 ^ j < 128) : N % 128 ^ (j + 1) = N := by
  apply Nat.mod_eq_of_lt
  rw [Nat.pow_succ, Nat.mul_comm]
  rw [Nat.div_lt_iff_lt_mul (Nat.pow_pos (by decide))] at h
  exact h
def own_w (g : Nat → Int32) (k N L : Nat) (i : Nat) : Int32 := if k ≤ i ∧ i < k + L then own_byM (N / 128 ^ (i - k)) else g i
theorem own_w0 (g : Nat → Int32) (k N : Nat) : g = own_w g k N 0 := by funext i; unfold own_w; rw [if_neg (by omega)]
theorem own_wS (g : Nat → Int32) (k N j : Nat) (u : Int64) (hu : own_U u = N / 128 ^ j) (h : ¬ own_U u < 128) {g' : Nat → Int32} (hg : g' = own_w g k N j) : own_w g k N (j + 1) = Jvm.OwnKit.upI g' (k + j) (nar .byte (((u &&& (127 : Int64)) ||| (128 : Int64)).toInt32.toInt8.toInt32)) := by
  subst hg
  funext i
  unfold own_w Jvm.OwnKit.upI
  dsimp only
  by_cases e : i = k + j
  · subst e; rw [if_pos (by omega), if_pos rfl, Nat.add_sub_cancel_left, ← hu]; exact (own_more u h).symm
  · rw [if_neg e]
    by_cases q : k ≤ i ∧ i < k + j
    · rw [if_pos q, if_pos (by omega)]
    · rw [if_neg q, if_neg (by omega)]
theorem own_wL (g : Nat → Int32) (k N j : Nat) (u : Int64) (hu : own_U u = N / 128 ^ j) (h : own_U u < 128) {g' : Nat → Int32} (hg : g' = own_w g k N j) : own_w g k N (j + 1) = Jvm.OwnKit.upI g' (k + j) (nar .byte (u.toInt32.toInt8.toInt32)) := by
  subst hg
  funext i
  unfold own_w Jvm.OwnKit.upI
  dsimp only
  by_cases e : i = k + j
  · subst e; rw [if_pos (by omega), if_pos rfl, Nat.add_sub_cancel_left, ← hu]; exact (own_last u h).symm
  · rw [if_neg e]
    by_cases q : k ≤ i ∧ i < k + j
    · rw [if_pos q, if_pos (by omega)]
    · rw [if_neg q, if_neg (by omega)]
def own_ofN (N : Nat) : Int64 := ⟨⟨BitVec.ofNat 64 N⟩⟩
theorem own_ofU (z : Int64) : own_ofN (own_U z) = z := by
  apply Int64.toBitVec_inj.mp
  show BitVec.ofNat 64 z.toBitVec.toNat = z.toBitVec
  simp
/-- what is read back of the number N -/
def own_sg (N : Nat) : Int64 := own_uz (own_ofN N)
theorem own_back (a : Int64) : own_sg (own_U (own_zz a)) = a := by rw [own_sg, own_ofU, own_uz_zz]
theorem d1_0 : decode prog_67_method_1_code 0 = .ok (.aload_n 0, 1) := by decide +kernel
theorem d1_1 : decode prog_67_method_1_code 1 = .ok (.invokespecial 1, 3) := by decide +kernel
theorem d1_4 : decode prog_67_method_1_code 4 = .ok (.aload_n 0, 1) := by decide +kernel
theorem d1_5 : decode prog_67_method_1_code 5 = .ok (.sipush 1024, 3) := by decide +kernel
theorem d1_8 : decode prog_67_method_1_code 8 = .ok (.newarray .byte, 2) := by decide +kernel
theorem d1_10 : decode prog_67_method_1_code 10 = .ok (.putfield 7, 3) := by decide +kernel
theorem d1_13 : decode prog_67_method_1_code 13 = .ok (.return_, 1) := by decide +kernel
theorem ef_rm_winit (m : MethodId) (x0 : Addr) : entryFrame m #[(.ref x0)] 1 = mkF m 0 #[.val (.ref x0)] [] := by first | (simp [entryFrame, mkF, argsToLocals, Value.category]; done) | rfl
theorem pn_com_example_validated_xml_store_validatedxmlstore_PackedBytes_Writer : plainName "com/example/validated_xml_store/validatedxmlstore/PackedBytes$Writer" = true := by first | (simp [plainName, overriddenIn]; done) | decide +kernel
set_option maxRecDepth 65536 in
set_option maxHeartbeats 40000000 in
theorem rm_winit (l : Launch) (Z : State) (a0 : Array Value) (hw : ∀ d ∈ tables_1, d.before a0 Z = true) (a1 : Addr) (h0 : Heap) (n0 : Nat) (Z0 : n0 ≤ h0.size) (P0 : Exa Z h0 a1 "com/example/validated_xml_store/validatedxmlstore/PackedBytes$Writer") (P1 : Fld Z h0 a1 "com/example/validated_xml_store/validatedxmlstore/PackedBytes$Writer" "bytes" "[B" .null) (P2 : Fld Z h0 a1 "com/example/validated_xml_store/validatedxmlstore/PackedBytes$Writer" "length" "I" (.int (0 : Int32))) (ge_a1 : n0 ≤ a1) :
    Con l Z (⟨"com/example/validated_xml_store/validatedxmlstore/PackedBytes$Writer", "<init>", "()V"⟩ : MethodName) prog_67_method_1_code 1 none ({ frames := 1, cells := 1, slots := 1024, locals := 12 } : Room) #[(.ref a1)] h0 (fun v h L => ∃ (b1 : Addr), v = none ∧ Fr n0 L ∧ Keep h0 h [a1] ∧ n0 ≤ b1 ∧ h0.size ≤ b1 ∧ Fld Z h a1 "com/example/validated_xml_store/validatedxmlstore/PackedBytes$Writer" "bytes" "[B" (.ref b1) ∧ Fld Z h a1 "com/example/validated_xml_store/validatedxmlstore/PackedBytes$Writer" "length" "I" (.int (0 : Int32)) ∧ ArF Z h b1 .byte 1024 (fun i => .int ((fun _ => (0 : Int32)) i))) := by
  refine meet (y := (⟨"com/example/validated_xml_store/validatedxmlstore/PackedBytes$Writer", "<init>", "()V"⟩ : MethodName)) (Q := fun v h L => ∃ (b1 : Addr), v = none ∧ Fr n0 L ∧ Keep h0 h [a1] ∧ n0 ≤ b1 ∧ h0.size ≤ b1 ∧ Fld Z h a1 "com/example/validated_xml_store/validatedxmlstore/PackedBytes$Writer" "bytes" "[B" (.ref b1) ∧ Fld Z h a1 "com/example/validated_xml_store/validatedxmlstore/PackedBytes$Writer" "length" "I" (.int (0 : Int32)) ∧ ArF Z h b1 .byte 1024 (fun i => .int ((fun _ => (0 : Int32)) i))) (plainFor_of_name pn_com_example_validated_xml_store_validatedxmlstore_PackedBytes_Writer) (fun m => ef_rm_winit m a1) ?_
  intro p e s m below meth c T0 hx hby hml hZ hown hnm hret hlk X0 e0
  have N0 := Fr.nil n0
  have K0 := Keep.refl h0 [a1]
  refine g_aloadN X0 hx hby d1_0 (pc' := 1) rfl rfl rfl ?_
  refine g_init X0 hx hby hZ hown (wi hw 6 rfl) (wi hw 7 rfl) (wi hw 8 rfl) e0 (by rw [hml]; rfl) d1_1 (pc' := 4) rfl (by decide) (W := 0) rfl (by decide) ?_
  intro T1 X1 e1
  refine g_aloadN X1 hx hby d1_4 (pc' := 5) rfl rfl rfl ?_
  refine g_sipush X1 hx hby d1_5 (pc' := 8) rfl (z := (1024 : Int32)) rfl ?_
  refine Go.newarr X1 hx hZ (n := 1024) (cap := 1024) (ty := .byte) rfl (wi hw 9 rfl) e1 (by decide) rfl (by decide) (by decide) (by decide) (by decide) (hb hby d1_8) ?_
  intro T2 h2 b2 X2 e2 E2 hb2 V2
  have g3 : n0 ≤ b2 := by rw [hb2]; exact Z0
  have s4 : h0.size ≤ b2 := by rw [hb2]; exact K0.1
  have V5 : ArF Z h2 b2 .byte 1024 (fun i => .int ((fun _ => (0 : Int32)) i)) := V2
  show Go p.tables e below s _ _ _ (T2.setTop (mkF m 10 #[.val (.ref a1)] [(.ref b2), (.ref a1)]))
  have f6 := P1.ext E2
  have f7 := P0.ext E2
  refine g_putf X2 hx hby hZ hown (host := "") (Or.inl (wi hw 10 rfl)) Via.refl e2 f6 f7 (Or.inl (wi hw 11 rfl)) (wi hw 1 rfl) (ty := (.array .byte)) (by decide) rfl rfl d1_10 (pc' := 13) rfl ?_
  intro T8 h8 X8 e8 W8 F8
  refine Go.retV X8 hx hlk hret (hb hby d1_13) rfl (by decide) (by decide) ?_
  rw [e8]
  have f9 := ((P2.ext E2).other W8 (Or.inr (slot_ne (Or.inl (wi hw 22 rfl)) (Or.inl (wi hw 11 rfl)) (by decide) (t := .int) (t' := (.array .byte)) (by decide) (by decide))))
  have ne10 : a1 ≠ b2 := Nat.ne_of_lt (by rw [hb2]; exact P2.lt)
  have f11 := (V5.other W8 (Ne.symm ne10))
  exact ⟨b2, rfl, (Fr.snoc X8 N0 ge_a1), ((K0.ext E2).wr W8 (Or.inl (List.mem_of_getElem? (i := 0) rfl))), g3, s4, F8, f9, f11⟩
theorem d4_0 : decode prog_67_method_10_code 0 = .ok (.aload_n 0, 1) := by decide +kernel
theorem d4_1 : decode prog_67_method_10_code 1 = .ok (.getfield 13, 3) := by decide +kernel
theorem d4_4 : decode prog_67_method_10_code 4 = .ok (.iload_n 1, 1) := by decide +kernel
theorem d4_5 : decode prog_67_method_10_code 5 = .ok (.iadd, 1) := by decide +kernel
theorem d4_6 : decode prog_67_method_10_code 6 = .ok (.aload_n 0, 1) := by decide +kernel
theorem d4_7 : decode prog_67_method_10_code 7 = .ok (.getfield 7, 3) := by decide +kernel
theorem d4_10 : decode prog_67_method_10_code 10 = .ok (.arraylength, 1) := by decide +kernel
theorem d4_11 : decode prog_67_method_10_code 11 = .ok (.if_icmp .le 30, 3) := by decide +kernel
theorem d4_41 : decode prog_67_method_10_code 41 = .ok (.return_, 1) := by decide +kernel
theorem ef_rm_room (m : MethodId) (x0 : Addr) : entryFrame m #[(.ref x0), (.int (10 : Int32))] 2 = mkF m 0 #[.val (.ref x0), .val (.int (10 : Int32))] [] := by first | (simp [entryFrame, mkF, argsToLocals, Value.category]; done) | rfl
set_option maxRecDepth 65536 in
set_option maxHeartbeats 40000000 in
theorem rm_room (l : Launch) (Z : State) (a0 : Array Value) (hw : ∀ d ∈ tables_1, d.before a0 Z = true) (a1 : Addr) (x1 : Addr) (t1 : Int32) (g1 : Nat → Int32) (k1 : Nat) (h0 : Heap) (n0 : Nat) (Z0 : n0 ≤ h0.size) (P0 : Fld Z h0 a1 "com/example/validated_xml_store/validatedxmlstore/PackedBytes$Writer" "bytes" "[B" (.ref x1)) (P1 : Fld Z h0 a1 "com/example/validated_xml_store/validatedxmlstore/PackedBytes$Writer" "length" "I" (.int t1)) (P2 : ArF Z h0 x1 .byte 1024 (fun i => .int (g1 i))) (hk : t1.toInt = (k1 : Int)) (hr : k1 + 10 ≤ 1024) :
    Con l Z (⟨"com/example/validated_xml_store/validatedxmlstore/PackedBytes$Writer", "room", "(I)V"⟩ : MethodName) prog_67_method_10_code 2 none ({ frames := 0, cells := 0, slots := 0, locals := 0 } : Room) #[(.ref a1), (.int (10 : Int32))] h0 (fun v h L => v = none ∧ Fr n0 L ∧ h = h0) := by
  refine meet (y := (⟨"com/example/validated_xml_store/validatedxmlstore/PackedBytes$Writer", "room", "(I)V"⟩ : MethodName)) (Q := fun v h L => v = none ∧ Fr n0 L ∧ h = h0) (plainFor_of_name pn_com_example_validated_xml_store_validatedxmlstore_PackedBytes_Writer) (fun m => ef_rm_room m a1) ?_
  intro p e s m below meth c T0 hx hby hml hZ hown hnm hret hlk X0 e0
  have N0 := Fr.nil n0
  refine g_aloadN X0 hx hby d4_0 (pc' := 1) rfl rfl rfl ?_
  refine g_getf X0 hx hby hZ hown (host := "") (Or.inl (wi hw 21 rfl)) Via.refl e0 P1 d4_1 (pc' := 4) rfl ?_
  intro T1 X1 e1
  refine g_iloadN X1 hx hby d4_4 (pc' := 5) rfl rfl ?_
  refine g_iadd X1 hx hby d4_5 (pc' := 6) rfl rfl ?_
  refine g_aloadN X1 hx hby d4_6 (pc' := 7) rfl rfl rfl ?_
  refine g_getf X1 hx hby hZ hown (host := "") (Or.inl (wi hw 10 rfl)) Via.refl e1 P0 d4_7 (pc' := 10) rfl ?_
  intro T2 X2 e2
  refine Go.alen X2 hx hZ e2 P2 (hb hby d4_10) ?_
  show Go p.tables e below s _ _ _ (T2.setTop (mkF m 11 #[.val (.ref a1), .val (.int (10 : Int32))] [(.int (1024 : Int32)), (.int (t1 + (10 : Int32)))]))
  have hc11 : ¬ ((1024 : Int) < (t1 + (10 : Int32)).toInt) := by have : ((t1 + (10 : Int32)).toInt - (t1.toInt + (10))) % 4294967296 = 0 := c_iadd _ _; have : -2147483648 ≤ (t1 + (10 : Int32)).toInt ∧ (t1 + (10 : Int32)).toInt < 2147483648 := rng32 _; have : -2147483648 ≤ t1.toInt ∧ t1.toInt < 2147483648 := rng32 _; omega
  refine g_icmpYes X2 hx hby d4_11 (pc' := 41) (flt (show ¬ ((1024 : Int32) < (t1 + (10 : Int32))) from fun q => hc11 (Int32.lt_iff_toInt_lt.mp q))).2.2.2 (by decide) (by decide) ?_
  refine Go.retV X2 hx hlk hret (hb hby d4_41) rfl (by decide) (by decide) ?_
  exact ⟨rfl, N0, e2⟩
theorem d3_0 : decode prog_67_method_7_code 0 = .ok (.lload_n 1, 1) := by decide +kernel
theorem d3_1 : decode prog_67_method_7_code 1 = .ok (.iconst 1, 1) := by decide +kernel
theorem d3_2 : decode prog_67_method_7_code 2 = .ok (.lshl, 1) := by decide +kernel
theorem d3_3 : decode prog_67_method_7_code 3 = .ok (.lload_n 1, 1) := by decide +kernel
theorem d3_4 : decode prog_67_method_7_code 4 = .ok (.bipush 63, 2) := by decide +kernel
theorem d3_6 : decode prog_67_method_7_code 6 = .ok (.lshr, 1) := by decide +kernel
theorem d3_7 : decode prog_67_method_7_code 7 = .ok (.lxor, 1) := by decide +kernel
theorem d3_8 : decode prog_67_method_7_code 8 = .ok (.lstore_n 3, 1) := by decide +kernel
theorem d3_9 : decode prog_67_method_7_code 9 = .ok (.aload_n 0, 1) := by decide +kernel
theorem d3_10 : decode prog_67_method_7_code 10 = .ok (.bipush 10, 2) := by decide +kernel
theorem d3_12 : decode prog_67_method_7_code 12 = .ok (.invokevirtual 17, 3) := by decide +kernel
theorem pd_aIzV : parseMethodDescriptor "(I)V" = some ⟨[.int], none⟩ := by decide +kernel
theorem d3_15 : decode prog_67_method_7_code 15 = .ok (.lload_n 3, 1) := by decide +kernel
theorem d3_16 : decode prog_67_method_7_code 16 = .ok (.ldc2_w 33, 3) := by decide +kernel
theorem d3_19 : decode prog_67_method_7_code 19 = .ok (.land, 1) := by decide +kernel
theorem d3_20 : decode prog_67_method_7_code 20 = .ok (.lconst 0, 1) := by decide +kernel
theorem d3_21 : decode prog_67_method_7_code 21 = .ok (.lcmp, 1) := by decide +kernel
theorem d3_22 : decode prog_67_method_7_code 22 = .ok (.ifCond .eq 38, 3) := by decide +kernel
theorem d3_60 : decode prog_67_method_7_code 60 = .ok (.aload_n 0, 1) := by decide +kernel
theorem d3_61 : decode prog_67_method_7_code 61 = .ok (.getfield 7, 3) := by decide +kernel
theorem d3_64 : decode prog_67_method_7_code 64 = .ok (.aload_n 0, 1) := by decide +kernel
theorem d3_65 : decode prog_67_method_7_code 65 = .ok (.dup, 1) := by decide +kernel
theorem d3_66 : decode prog_67_method_7_code 66 = .ok (.getfield 13, 3) := by decide +kernel
theorem d3_69 : decode prog_67_method_7_code 69 = .ok (.dup_x1, 1) := by decide +kernel
theorem d3_70 : decode prog_67_method_7_code 70 = .ok (.iconst 1, 1) := by decide +kernel
theorem d3_71 : decode prog_67_method_7_code 71 = .ok (.iadd, 1) := by decide +kernel
theorem d3_72 : decode prog_67_method_7_code 72 = .ok (.putfield 13, 3) := by decide +kernel
theorem d3_75 : decode prog_67_method_7_code 75 = .ok (.lload_n 3, 1) := by decide +kernel
theorem d3_76 : decode prog_67_method_7_code 76 = .ok (.l2i, 1) := by decide +kernel
theorem d3_77 : decode prog_67_method_7_code 77 = .ok (.i2b, 1) := by decide +kernel
theorem d3_78 : decode prog_67_method_7_code 78 = .ok (.bastore, 1) := by decide +kernel
theorem d3_79 : decode prog_67_method_7_code 79 = .ok (.return_, 1) := by decide +kernel
theorem d3_25 : decode prog_67_method_7_code 25 = .ok (.aload_n 0, 1) := by decide +kernel
theorem d3_26 : decode prog_67_method_7_code 26 = .ok (.getfield 7, 3) := by decide +kernel
theorem d3_29 : decode prog_67_method_7_code 29 = .ok (.aload_n 0, 1) := by decide +kernel
theorem d3_30 : decode prog_67_method_7_code 30 = .ok (.dup, 1) := by decide +kernel
theorem d3_31 : decode prog_67_method_7_code 31 = .ok (.getfield 13, 3) := by decide +kernel
theorem d3_34 : decode prog_67_method_7_code 34 = .ok (.dup_x1, 1) := by decide +kernel
theorem d3_35 : decode prog_67_method_7_code 35 = .ok (.iconst 1, 1) := by decide +kernel
theorem d3_36 : decode prog_67_method_7_code 36 = .ok (.iadd, 1) := by decide +kernel
theorem d3_37 : decode prog_67_method_7_code 37 = .ok (.putfield 13, 3) := by decide +kernel
theorem d3_40 : decode prog_67_method_7_code 40 = .ok (.lload_n 3, 1) := by decide +kernel
theorem d3_41 : decode prog_67_method_7_code 41 = .ok (.ldc2_w 35, 3) := by decide +kernel
theorem d3_44 : decode prog_67_method_7_code 44 = .ok (.land, 1) := by decide +kernel
theorem d3_45 : decode prog_67_method_7_code 45 = .ok (.ldc2_w 37, 3) := by decide +kernel
theorem d3_48 : decode prog_67_method_7_code 48 = .ok (.lor, 1) := by decide +kernel
theorem d3_49 : decode prog_67_method_7_code 49 = .ok (.l2i, 1) := by decide +kernel
theorem d3_50 : decode prog_67_method_7_code 50 = .ok (.i2b, 1) := by decide +kernel
theorem d3_51 : decode prog_67_method_7_code 51 = .ok (.bastore, 1) := by decide +kernel
theorem d3_52 : decode prog_67_method_7_code 52 = .ok (.lload_n 3, 1) := by decide +kernel
theorem d3_53 : decode prog_67_method_7_code 53 = .ok (.bipush 7, 2) := by decide +kernel
theorem d3_55 : decode prog_67_method_7_code 55 = .ok (.lushr, 1) := by decide +kernel
theorem d3_56 : decode prog_67_method_7_code 56 = .ok (.lstore_n 3, 1) := by decide +kernel
theorem d3_57 : decode prog_67_method_7_code 57 = .ok (.goto (-42), 3) := by decide +kernel
theorem ef_rm_put (m : MethodId) (x0 : Addr) (x1 : Int64) : entryFrame m #[(.ref x0), (.long x1)] 5 = mkF m 0 #[.val (.ref x0), .val (.long x1), .second, .unset, .unset] [] := by first | (simp [entryFrame, mkF, argsToLocals, Value.category]; done) | rfl
set_option maxRecDepth 65536 in
set_option maxHeartbeats 40000000 in
theorem rm_put (l : Launch) (Z : State) (a0 : Array Value) (hw : ∀ d ∈ tables_1, d.before a0 Z = true) (a1 : Addr) (q1 : Int64) (x1 : Addr) (t1 : Int32) (g1 : Nat → Int32) (k1 : Nat) (h0 : Heap) (n0 : Nat) (Z0 : n0 ≤ h0.size) (P0 : Exa Z h0 a1 "com/example/validated_xml_store/validatedxmlstore/PackedBytes$Writer") (P1 : Fld Z h0 a1 "com/example/validated_xml_store/validatedxmlstore/PackedBytes$Writer" "bytes" "[B" (.ref x1)) (P2 : Fld Z h0 a1 "com/example/validated_xml_store/validatedxmlstore/PackedBytes$Writer" "length" "I" (.int t1)) (P3 : ArF Z h0 x1 .byte 1024 (fun i => .int (g1 i))) (ne_x1_a1 : x1 ≠ a1) (ge_a1 : n0 ≤ a1) (ge_x1 : n0 ≤ x1) (hk : t1.toInt = (k1 : Int)) (hr : k1 + 10 ≤ 1024) :
    Con l Z (⟨"com/example/validated_xml_store/validatedxmlstore/PackedBytes$Writer", "putSigned", "(J)V"⟩ : MethodName) prog_67_method_7_code 5 none ({ frames := 1, cells := 0, slots := 0, locals := 13 } : Room) #[(.ref a1), (.long q1)] h0 (fun v h L => ∃ (Lw : Nat) (t9 : Int32), v = none ∧ Fr n0 L ∧ Keep h0 h [a1, x1] ∧ Fld Z h a1 "com/example/validated_xml_store/validatedxmlstore/PackedBytes$Writer" "bytes" "[B" (.ref x1) ∧ Fld Z h a1 "com/example/validated_xml_store/validatedxmlstore/PackedBytes$Writer" "length" "I" (.int t9) ∧ ArF Z h x1 .byte 1024 (fun i => .int ((own_w g1 k1 (own_U (own_zz q1)) Lw) i)) ∧ (1 ≤ Lw ∧ Lw ≤ 10) ∧ ((own_U (own_zz q1)) / 128 ^ (Lw - 1) < 128) ∧ ((∀ i, i + 1 < Lw → 128 ≤ (own_U (own_zz q1)) / 128 ^ i)) ∧ (t9.toInt = ((k1 + Lw : Nat) : Int))) := by
  refine meet (y := (⟨"com/example/validated_xml_store/validatedxmlstore/PackedBytes$Writer", "putSigned", "(J)V"⟩ : MethodName)) (Q := fun v h L => ∃ (Lw : Nat) (t9 : Int32), v = none ∧ Fr n0 L ∧ Keep h0 h [a1, x1] ∧ Fld Z h a1 "com/example/validated_xml_store/validatedxmlstore/PackedBytes$Writer" "bytes" "[B" (.ref x1) ∧ Fld Z h a1 "com/example/validated_xml_store/validatedxmlstore/PackedBytes$Writer" "length" "I" (.int t9) ∧ ArF Z h x1 .byte 1024 (fun i => .int ((own_w g1 k1 (own_U (own_zz q1)) Lw) i)) ∧ (1 ≤ Lw ∧ Lw ≤ 10) ∧ ((own_U (own_zz q1)) / 128 ^ (Lw - 1) < 128) ∧ ((∀ i, i + 1 < Lw → 128 ≤ (own_U (own_zz q1)) / 128 ^ i)) ∧ (t9.toInt = ((k1 + Lw : Nat) : Int))) (plainFor_of_name pn_com_example_validated_xml_store_validatedxmlstore_PackedBytes_Writer) (fun m => ef_rm_put m a1 q1) ?_
  intro p e s m below meth c T0 hx hby hml hZ hown hnm hret hlk X0 e0
  have N0 := Fr.nil n0
  have K0 := Keep.refl h0 [a1, x1]
  refine g_lloadN X0 hx hby d3_0 (pc' := 1) rfl rfl ?_
  refine g_iconst X0 hx hby d3_1 (pc' := 2) rfl (z := (1 : Int32)) rfl ?_
  refine g_lshl X0 hx hby d3_2 (pc' := 3) rfl rfl ?_
  refine g_lloadN X0 hx hby d3_3 (pc' := 4) rfl rfl ?_
  refine g_bipush X0 hx hby d3_4 (pc' := 6) rfl (z := (63 : Int32)) rfl ?_
  refine g_lshr X0 hx hby d3_6 (pc' := 7) rfl rfl ?_
  refine g_lxor X0 hx hby d3_7 (pc' := 8) rfl rfl ?_
  show Go p.tables e below s _ _ _ (T0.setTop (mkF m 8 #[.val (.ref a1), .val (.long q1), .second, .unset, .unset] [(.long ((q1 <<< ((1 : Int32) &&& 0x3f).toInt64) ^^^ (q1 >>> ((63 : Int32) &&& 0x3f).toInt64)))]))
  generalize hv1 : ((q1 <<< ((1 : Int32) &&& 0x3f).toInt64) ^^^ (q1 >>> ((63 : Int32) &&& 0x3f).toInt64)) = v1
  refine g_lstoreN X0 hx hby d3_8 (pc' := 9) rfl (L' := #[.val (.ref a1), .val (.long q1), .second, .val (.long v1), .second]) rfl ?_
  refine g_aloadN X0 hx hby d3_9 (pc' := 10) rfl rfl rfl ?_
  refine g_bipush X0 hx hby d3_10 (pc' := 12) rfl (z := (10 : Int32)) rfl ?_
  refine Go.callP X0 hx hZ (y := (⟨"com/example/validated_xml_store/validatedxmlstore/PackedBytes$Writer", "room", "(I)V"⟩ : MethodName)) hown (wi hw 17 rfl) (wi hw 18 rfl) (wi hw 1 rfl) (wi hw 19 rfl) (wi hw 2 rfl) (wi hw 20 rfl) (by decide) e0 (a := a1)  (argsL := [(.int (10 : Int32))]) (rest := []) (W := 0) P0 (rm_room l Z a0 hw a1 x1 t1 g1 k1 h0 n0 Z0 P1 P2 P3 hk hr) (hb hby d3_12) (by rw [hml]; rfl) rfl pd_aIzV rfl rfl (by decide) (by decide) (by decide) (by decide) ?_
  intro v2 T2 L2 X2 hQ2
  obtain ⟨rfl, Nq2, hh2⟩ := hQ2
  have N2 := Fr.app N0 Nq2
  show Go p.tables e below s _ _ _ (T2.setTop (mkF m 15 #[.val (.ref a1), .val (.long q1), .second, .val (.long v1), .second] []))
  have hN := own_U_lt (own_zz q1)
  have hu0 : own_U v1 = (own_U (own_zz q1)) := by rw [← hv1]; rfl
  refine Go.loop (α := State × (List Loc) × Heap × Int64 × Int32 × (Nat → Int32) × Nat) (P := fun kq x => (fun (Tj15 : State) (Lj15 : List Loc) (hj15 : Heap) (uv : Int64) (tv : Int32) (gv : Nat → Int32) (jv : Nat) => Stand p l e ({ frames := 1, cells := 0, slots := 0, locals := 13 } : Room) s m #[(.ref a1), (.long q1)] below meth c Tj15 Lj15 0 0 ∧ Tj15.heap = hj15 ∧ Fr n0 Lj15 ∧ n0 ≤ hj15.size ∧ Keep h0 hj15 [a1, x1] ∧ Exa Z hj15 a1 "com/example/validated_xml_store/validatedxmlstore/PackedBytes$Writer" ∧ Fld Z hj15 a1 "com/example/validated_xml_store/validatedxmlstore/PackedBytes$Writer" "bytes" "[B" (.ref x1) ∧ Fld Z hj15 a1 "com/example/validated_xml_store/validatedxmlstore/PackedBytes$Writer" "length" "I" (.int tv) ∧ ArF Z hj15 x1 .byte 1024 (fun i => .int (gv i)) ∧ (own_U uv = (own_U (own_zz q1)) / 128 ^ jv ∧ tv.toInt = ((k1 + jv : Nat) : Int) ∧ jv ≤ 9 ∧ kq = 10 - jv ∧ (∀ i, i < jv → 128 ≤ (own_U (own_zz q1)) / 128 ^ i) ∧ gv = own_w g1 k1 (own_U (own_zz q1)) jv)) x.1 x.2.1 x.2.2.1 x.2.2.2.1 x.2.2.2.2.1 x.2.2.2.2.2.1 x.2.2.2.2.2.2) (F := fun x => (fun (Tj15 : State) (Lj15 : List Loc) (hj15 : Heap) (uv : Int64) (tv : Int32) (gv : Nat → Int32) (jv : Nat) => Tj15.setTop (mkF m 15 #[.val (.ref a1), .val (.long q1), .second, .val (.long uv), .second] [])) x.1 x.2.1 x.2.2.1 x.2.2.2.1 x.2.2.2.2.1 x.2.2.2.2.2.1 x.2.2.2.2.2.2) ?_ (10) (T2, _, h0, v1, t1, g1, 0) ⟨X2.more (by decide) (by decide), hh2, N2, Z0, K0, P0, P1, P2, P3, (show own_U v1 = (own_U (own_zz q1)) / 128 ^ 0 ∧ t1.toInt = ((k1 + 0 : Nat) : Int) ∧ 0 ≤ 9 ∧ (10) = 10 - 0 ∧ (∀ i, i < 0 → 128 ≤ (own_U (own_zz q1)) / 128 ^ i) ∧ g1 = own_w g1 k1 (own_U (own_zz q1)) 0 from ⟨by rw [hu0]; simp, by simpa using hk, by omega, rfl, fun i hi => absurd hi (by omega), own_w0 g1 k1 (own_U (own_zz q1))⟩)⟩
  rintro kq ⟨Tj15, Lj15, hj15, uv, tv, gv, jv⟩ hP15 IH15
  obtain ⟨Xj15, ej15, Nj15, zj15, Kj15, fj15_0, fj15_1, fj15_2, fj15_3, hJ15⟩ : Stand p l e ({ frames := 1, cells := 0, slots := 0, locals := 13 } : Room) s m #[(.ref a1), (.long q1)] below meth c Tj15 Lj15 0 0 ∧ Tj15.heap = hj15 ∧ Fr n0 Lj15 ∧ n0 ≤ hj15.size ∧ Keep h0 hj15 [a1, x1] ∧ Exa Z hj15 a1 "com/example/validated_xml_store/validatedxmlstore/PackedBytes$Writer" ∧ Fld Z hj15 a1 "com/example/validated_xml_store/validatedxmlstore/PackedBytes$Writer" "bytes" "[B" (.ref x1) ∧ Fld Z hj15 a1 "com/example/validated_xml_store/validatedxmlstore/PackedBytes$Writer" "length" "I" (.int tv) ∧ ArF Z hj15 x1 .byte 1024 (fun i => .int (gv i)) ∧ (own_U uv = (own_U (own_zz q1)) / 128 ^ jv ∧ tv.toInt = ((k1 + jv : Nat) : Int) ∧ jv ≤ 9 ∧ kq = 10 - jv ∧ (∀ i, i < jv → 128 ≤ (own_U (own_zz q1)) / 128 ^ i) ∧ gv = own_w g1 k1 (own_U (own_zz q1)) jv) := hP15
  show Go p.tables e below s _ _ _ (Tj15.setTop (mkF m 15 #[.val (.ref a1), .val (.long q1), .second, .val (.long uv), .second] []))
  obtain ⟨hju, hjt, hj9, hjk, hja, hjg⟩ := hJ15
  refine g_lloadN Xj15 hx hby d3_15 (pc' := 16) rfl rfl ?_
  refine g_ldcL Xj15 hx hby hZ hown (wi hw 23 rfl) d3_16 (pc' := 19) rfl ?_
  refine g_land Xj15 hx hby d3_19 (pc' := 20) rfl rfl ?_
  refine Go.of (fun _ k => XS.lconst Xj15.here hx rfl (hb hby d3_20) k) ?_
  show Go p.tables e below s _ _ _ (Tj15.setTop (mkF m 21 #[.val (.ref a1), .val (.long q1), .second, .val (.long uv), .second] [(.long (0 : Int64)), (.long (uv &&& (-128 : Int64)))]))
  refine g_lcmp Xj15 hx hby d3_21 (pc' := 22) rfl  ?_
  by_cases hc22 : (uv &&& (-128 : Int64)).toInt = (0 : Int)
  · refine g_ifYes Xj15 hx hby d3_22 (pc' := 60) (teq (show (lcmpW (uv &&& (-128 : Int64)) (0 : Int64)) = (0 : Int32) from (lw_eq (uv &&& (-128 : Int64)) (0 : Int64)).mpr (Int64.toInt_inj.mp hc22))).1 (by decide) (by decide) ?_
    refine g_aloadN Xj15 hx hby d3_60 (pc' := 61) rfl rfl rfl ?_
    refine g_getf Xj15 hx hby hZ hown (host := "") (Or.inl (wi hw 10 rfl)) Via.refl ej15 fj15_1 d3_61 (pc' := 64) rfl ?_
    intro T3 X3 e3
    refine g_aloadN X3 hx hby d3_64 (pc' := 65) rfl rfl rfl ?_
    refine g_dup X3 hx hby d3_65 (pc' := 66) rfl rfl ?_
    refine g_getf X3 hx hby hZ hown (host := "") (Or.inl (wi hw 21 rfl)) Via.refl e3 fj15_2 d3_66 (pc' := 69) rfl ?_
    intro T4 X4 e4
    refine g_dup_x1 X4 hx hby d3_69 (pc' := 70) rfl rfl rfl ?_
    refine g_iconst X4 hx hby d3_70 (pc' := 71) rfl (z := (1 : Int32)) rfl ?_
    refine g_iadd X4 hx hby d3_71 (pc' := 72) rfl rfl ?_
    refine g_putf X4 hx hby hZ hown (host := "") (Or.inl (wi hw 21 rfl)) Via.refl e4 fj15_2 fj15_0 (Or.inl (wi hw 22 rfl)) (wi hw 1 rfl) (ty := .int) (by decide) rfl rfl d3_72 (pc' := 75) rfl ?_
    intro T5 h5 X5 e5 W5 F5
    have hlt : own_U uv < 128 := (own_tst uv).mp hc22
    refine g_lloadN X5 hx hby d3_75 (pc' := 76) rfl rfl ?_
    refine g_l2i X5 hx hby d3_76 (pc' := 77) rfl rfl ?_
    refine g_i2b X5 hx hby d3_77 (pc' := 78) rfl rfl ?_
    have f6 := fj15_3.other W5 ne_x1_a1
    refine Go.bastore X5 hx hZ e5 f6 (k := (k1 + jv)) hjt (by omega) (hb hby d3_78) ?_
    intro T7 h7 X7 e7 W7 V7
    show Go p.tables e below s _ _ _ (T7.setTop (mkF m 79 #[.val (.ref a1), .val (.long q1), .second, .val (.long uv), .second] []))
    refine Go.retV X7 hx hlk hret (hb hby d3_79) rfl (by decide) (by decide) ?_
    have VW : ArF Z h7 x1 .byte 1024 (fun i => .int ((own_w g1 k1 (own_U (own_zz q1)) (jv + 1)) i)) := by
      have e := own_wL g1 k1 (own_U (own_zz q1)) jv uv hju hlt hjg
      rw [e]; exact V7
    rw [e7]
    have f8 := ((fj15_1.other W5 (Or.inr (slot_ne (Or.inl (wi hw 11 rfl)) (Or.inl (wi hw 22 rfl)) (by decide) (t := (.array .byte)) (t' := .int) (by decide) (by decide)))).other W7 (Or.inl (Ne.symm ne_x1_a1)))
    have f9 := (F5.other W7 (Or.inl (Ne.symm ne_x1_a1)))
    exact ⟨(jv + 1), (tv + (1 : Int32)), rfl, (Fr.snoc X7 (Fr.snoc X5 Nj15 ge_a1) ge_x1), ((Kj15.wr W5 (Or.inl (List.mem_of_getElem? (i := 0) rfl))).wr W7 (Or.inl (List.mem_of_getElem? (i := 1) rfl))), f8, f9, VW, ⟨by omega, by omega⟩, (by rw [Nat.add_sub_cancel, ← hju]; exact hlt), (fun i hi => hja i (by omega)), (by have : ((tv + (1 : Int32)).toInt - (tv.toInt + (1))) % 4294967296 = 0 := c_iadd _ _; have : -2147483648 ≤ (tv + (1 : Int32)).toInt ∧ (tv + (1 : Int32)).toInt < 2147483648 := rng32 _; have : -2147483648 ≤ tv.toInt ∧ tv.toInt < 2147483648 := rng32 _; omega)⟩
  · refine g_ifNo Xj15 hx hby d3_22 (pc' := 25) (feq (show ¬ ((lcmpW (uv &&& (-128 : Int64)) (0 : Int64)) = (0 : Int32)) from fun q => hc22 (congrArg Int64.toInt ((lw_eq (uv &&& (-128 : Int64)) (0 : Int64)).mp q)))).1 rfl ?_
    refine g_aloadN Xj15 hx hby d3_25 (pc' := 26) rfl rfl rfl ?_
    refine g_getf Xj15 hx hby hZ hown (host := "") (Or.inl (wi hw 10 rfl)) Via.refl ej15 fj15_1 d3_26 (pc' := 29) rfl ?_
    intro T10 X10 e10
    refine g_aloadN X10 hx hby d3_29 (pc' := 30) rfl rfl rfl ?_
    refine g_dup X10 hx hby d3_30 (pc' := 31) rfl rfl ?_
    refine g_getf X10 hx hby hZ hown (host := "") (Or.inl (wi hw 21 rfl)) Via.refl e10 fj15_2 d3_31 (pc' := 34) rfl ?_
    intro T11 X11 e11
    refine g_dup_x1 X11 hx hby d3_34 (pc' := 35) rfl rfl rfl ?_
    refine g_iconst X11 hx hby d3_35 (pc' := 36) rfl (z := (1 : Int32)) rfl ?_
    refine g_iadd X11 hx hby d3_36 (pc' := 37) rfl rfl ?_
    refine g_putf X11 hx hby hZ hown (host := "") (Or.inl (wi hw 21 rfl)) Via.refl e11 fj15_2 fj15_0 (Or.inl (wi hw 22 rfl)) (wi hw 1 rfl) (ty := .int) (by decide) rfl rfl d3_37 (pc' := 40) rfl ?_
    intro T12 h12 X12 e12 W12 F12
    have hge : ¬ own_U uv < 128 := fun q => hc22 ((own_tst uv).mpr q)
    have hj8 : jv < 9 := own_j9 _ jv hN hj9 (by rw [← hju]; omega)
    have hall : ∀ i, i < jv + 1 → 128 ≤ (own_U (own_zz q1)) / 128 ^ i := fun i hi => by
      rcases Nat.lt_or_ge i jv with q | q
      · exact hja i q
      · have : i = jv := by omega
        subst this; rw [← hju]; omega
    obtain ⟨tvn, ht40⟩ : ∃ z, (tv + (1 : Int32)) = z := ⟨_, rfl⟩
    have FL40 : Fld Z h12 a1 "com/example/validated_xml_store/validatedxmlstore/PackedBytes$Writer" "length" "I" (.int tvn) := by rw [← ht40]; exact F12
    refine g_lloadN X12 hx hby d3_40 (pc' := 41) rfl rfl ?_
    refine g_ldcL X12 hx hby hZ hown (wi hw 67 rfl) d3_41 (pc' := 44) rfl ?_
    refine g_land X12 hx hby d3_44 (pc' := 45) rfl rfl ?_
    refine g_ldcL X12 hx hby hZ hown (wi hw 68 rfl) d3_45 (pc' := 48) rfl ?_
    refine g_lor X12 hx hby d3_48 (pc' := 49) rfl rfl ?_
    refine g_l2i X12 hx hby d3_49 (pc' := 50) rfl rfl ?_
    refine g_i2b X12 hx hby d3_50 (pc' := 51) rfl rfl ?_
    have f13 := fj15_3.other W12 ne_x1_a1
    refine Go.bastore X12 hx hZ e12 f13 (k := (k1 + jv)) hjt (by omega) (hb hby d3_51) ?_
    intro T14 h14 X14 e14 W14 V14
    show Go p.tables e below s _ _ _ (T14.setTop (mkF m 52 #[.val (.ref a1), .val (.long q1), .second, .val (.long uv), .second] []))
    refine g_lloadN X14 hx hby d3_52 (pc' := 53) rfl rfl ?_
    refine g_bipush X14 hx hby d3_53 (pc' := 55) rfl (z := (7 : Int32)) rfl ?_
    refine g_lushr X14 hx hby d3_55 (pc' := 56) rfl rfl ?_
    show Go p.tables e below s _ _ _ (T14.setTop (mkF m 56 #[.val (.ref a1), .val (.long q1), .second, .val (.long uv), .second] [(.long ((uv.toUInt64 >>> ((7 : Int32) &&& 0x3f).toInt64.toUInt64).toInt64))]))
    generalize hv15 : ((uv.toUInt64 >>> ((7 : Int32) &&& 0x3f).toInt64.toUInt64).toInt64) = v15
    refine g_lstoreN X14 hx hby d3_56 (pc' := 57) rfl (L' := #[.val (.ref a1), .val (.long q1), .second, .val (.long v15), .second]) rfl ?_
    refine g_goto X14 hx hby d3_57 (pc' := 15) (by decide) (by decide) ?_
    have f16 := ((fj15_0.wr W12).wr W14)
    have f17 := ((fj15_1.other W12 (Or.inr (slot_ne (Or.inl (wi hw 11 rfl)) (Or.inl (wi hw 22 rfl)) (by decide) (t := (.array .byte)) (t' := .int) (by decide) (by decide)))).other W14 (Or.inl (Ne.symm ne_x1_a1)))
    have f18 := (FL40.other W14 (Or.inl (Ne.symm ne_x1_a1)))
    exact IH15 (10 - (jv + 1)) (T14, _, h14, v15, tvn, (upI gv (k1 + jv) (nar .byte ((((uv &&& (127 : Int64)) ||| (128 : Int64)).toInt32).toInt8.toInt32))), (jv + 1)) (by omega) ⟨X14.more (by decide) (by decide), e14, (Fr.snoc X14 (Fr.snoc X12 Nj15 ge_a1) ge_x1), (Nat.le_trans (Nat.le_trans zj15 (Nat.le_of_eq (Wr.size W12).symm)) (Nat.le_of_eq (Wr.size W14).symm)), ((Kj15.wr W12 (Or.inl (List.mem_of_getElem? (i := 0) rfl))).wr W14 (Or.inl (List.mem_of_getElem? (i := 1) rfl))), f16, f17, f18, V14, (show own_U v15 = (own_U (own_zz q1)) / 128 ^ (jv + 1) ∧ tvn.toInt = ((k1 + (jv + 1) : Nat) : Int) ∧ (jv + 1) ≤ 9 ∧ (10 - (jv + 1)) = 10 - (jv + 1) ∧ (∀ i, i < (jv + 1) → 128 ≤ (own_U (own_zz q1)) / 128 ^ i) ∧ (upI gv (k1 + jv) (nar .byte ((((uv &&& (127 : Int64)) ||| (128 : Int64)).toInt32).toInt8.toInt32))) = own_w g1 k1 (own_U (own_zz q1)) (jv + 1) from ⟨by rw [← hv15, own_shr7, hju, own_div], by rw [← ht40]; have : ((tv + (1 : Int32)).toInt - (tv.toInt + (1))) % 4294967296 = 0 := c_iadd _ _; have : -2147483648 ≤ (tv + (1 : Int32)).toInt ∧ (tv + (1 : Int32)).toInt < 2147483648 := rng32 _; have : -2147483648 ≤ tv.toInt ∧ tv.toInt < 2147483648 := rng32 _; omega, by omega, by omega, hall, (own_wS g1 k1 (own_U (own_zz q1)) jv _ hju hge hjg).symm⟩)⟩
theorem d5_0 : decode prog_67_method_2_code 0 = .ok (.aload_n 0, 1) := by decide +kernel
theorem d5_1 : decode prog_67_method_2_code 1 = .ok (.getfield 13, 3) := by decide +kernel
theorem d5_4 : decode prog_67_method_2_code 4 = .ok (.ireturn, 1) := by decide +kernel
theorem ef_rm_wlen (m : MethodId) (x0 : Addr) : entryFrame m #[(.ref x0)] 1 = mkF m 0 #[.val (.ref x0)] [] := by first | (simp [entryFrame, mkF, argsToLocals, Value.category]; done) | rfl
set_option maxRecDepth 65536 in
set_option maxHeartbeats 40000000 in
theorem rm_wlen (l : Launch) (Z : State) (a0 : Array Value) (hw : ∀ d ∈ tables_1, d.before a0 Z = true) (a1 : Addr) (t1 : Int32) (h0 : Heap) (n0 : Nat) (Z0 : n0 ≤ h0.size) (P0 : Fld Z h0 a1 "com/example/validated_xml_store/validatedxmlstore/PackedBytes$Writer" "length" "I" (.int t1)) :
    Con l Z (⟨"com/example/validated_xml_store/validatedxmlstore/PackedBytes$Writer", "length", "()I"⟩ : MethodName) prog_67_method_2_code 1 (some .int) ({ frames := 0, cells := 0, slots := 0, locals := 0 } : Room) #[(.ref a1)] h0 (fun v h L => v = some (.int t1) ∧ Fr n0 L ∧ h = h0) := by
  refine meet (y := (⟨"com/example/validated_xml_store/validatedxmlstore/PackedBytes$Writer", "length", "()I"⟩ : MethodName)) (Q := fun v h L => v = some (.int t1) ∧ Fr n0 L ∧ h = h0) (plainFor_of_name pn_com_example_validated_xml_store_validatedxmlstore_PackedBytes_Writer) (fun m => ef_rm_wlen m a1) ?_
  intro p e s m below meth c T0 hx hby hml hZ hown hnm hret hlk X0 e0
  have N0 := Fr.nil n0
  refine g_aloadN X0 hx hby d5_0 (pc' := 1) rfl rfl rfl ?_
  refine g_getf X0 hx hby hZ hown (host := "") (Or.inl (wi hw 21 rfl)) Via.refl e0 P0 d5_1 (pc' := 4) rfl ?_
  intro T1 X1 e1
  refine Go.retI X1 hx hlk hret (hb hby d5_4) (by decide) (by decide) ?_
  exact ⟨rfl, N0, e1⟩
theorem d8_0 : decode jdk_29_method_69_code 0 = .ok (.iload_n 0, 1) := by decide +kernel
theorem d8_1 : decode jdk_29_method_69_code 1 = .ok (.iload_n 1, 1) := by decide +kernel
theorem d8_2 : decode jdk_29_method_69_code 2 = .ok (.if_icmp .gt 7, 3) := by decide +kernel
theorem d8_9 : decode jdk_29_method_69_code 9 = .ok (.iload_n 1, 1) := by decide +kernel
theorem d8_10 : decode jdk_29_method_69_code 10 = .ok (.ireturn, 1) := by decide +kernel
theorem ef_rm_min (m : MethodId) (x0 : Int32) (x1 : Int32) : entryFrame m #[(.int x0), (.int x1)] 2 = mkF m 0 #[.val (.int x0), .val (.int x1)] [] := by first | (simp [entryFrame, mkF, argsToLocals, Value.category]; done) | rfl
set_option maxRecDepth 65536 in
set_option maxHeartbeats 40000000 in
theorem rm_min (l : Launch) (Z : State) (a0 : Array Value) (hw : ∀ d ∈ tables_1, d.before a0 Z = true) (i1 : Int32) (i2 : Int32) (h0 : Heap) (n0 : Nat) (Z0 : n0 ≤ h0.size) (y1 : i2.toInt < i1.toInt) :
    Con l Z (⟨"java/lang/Math", "min", "(II)I"⟩ : MethodName) jdk_29_method_69_code 2 (some .int) ({ frames := 0, cells := 0, slots := 0, locals := 0 } : Room) #[(.int i1), (.int i2)] h0 (fun v h L => v = some (.int i2) ∧ Fr n0 L ∧ h = h0) := by
  refine meet (y := (⟨"java/lang/Math", "min", "(II)I"⟩ : MethodName)) (Q := fun v h L => v = some (.int i2) ∧ Fr n0 L ∧ h = h0) (Jvm.Free.JP.mathPlain rfl (by decide +kernel)) (fun m => ef_rm_min m i1 i2) ?_
  intro p e s m below meth c T0 hx hby hml hZ hown hnm hret hlk X0 e0
  have N0 := Fr.nil n0
  refine g_iloadN X0 hx hby d8_0 (pc' := 1) rfl rfl ?_
  refine g_iloadN X0 hx hby d8_1 (pc' := 2) rfl rfl ?_
  have hc2 : i2.toInt < i1.toInt := by omega
  refine g_icmpYes X0 hx hby d8_2 (pc' := 9) (tlt (show i2 < i1 from Int32.lt_iff_toInt_lt.mpr hc2)).2.2.1 (by decide) (by decide) ?_
  refine g_iloadN X0 hx hby d8_9 (pc' := 10) rfl rfl ?_
  refine Go.retI X0 hx hlk hret (hb hby d8_10) (by decide) (by decide) ?_
  exact ⟨rfl, N0, e0⟩
theorem d7_0 : decode jdk_65_method_121_code 0 = .ok (.iload_n 1, 1) := by decide +kernel
theorem d7_1 : decode jdk_65_method_121_code 1 = .ok (.aload_n 0, 1) := by decide +kernel
theorem d7_2 : decode jdk_65_method_121_code 2 = .ok (.arraylength, 1) := by decide +kernel
theorem d7_3 : decode jdk_65_method_121_code 3 = .ok (.if_icmp .ne 11, 3) := by decide +kernel
theorem d7_14 : decode jdk_65_method_121_code 14 = .ok (.iload_n 1, 1) := by decide +kernel
theorem d7_15 : decode jdk_65_method_121_code 15 = .ok (.newarray .byte, 2) := by decide +kernel
theorem d7_17 : decode jdk_65_method_121_code 17 = .ok (.astore_n 2, 1) := by decide +kernel
theorem d7_18 : decode jdk_65_method_121_code 18 = .ok (.aload_n 0, 1) := by decide +kernel
theorem d7_19 : decode jdk_65_method_121_code 19 = .ok (.iconst 0, 1) := by decide +kernel
theorem d7_20 : decode jdk_65_method_121_code 20 = .ok (.aload_n 2, 1) := by decide +kernel
theorem d7_21 : decode jdk_65_method_121_code 21 = .ok (.iconst 0, 1) := by decide +kernel
theorem d7_22 : decode jdk_65_method_121_code 22 = .ok (.aload_n 0, 1) := by decide +kernel
theorem d7_23 : decode jdk_65_method_121_code 23 = .ok (.arraylength, 1) := by decide +kernel
theorem d7_24 : decode jdk_65_method_121_code 24 = .ok (.iload_n 1, 1) := by decide +kernel
theorem d7_25 : decode jdk_65_method_121_code 25 = .ok (.invokestatic 304, 3) := by decide +kernel
theorem pd_aIIzI : parseMethodDescriptor "(II)I" = some ⟨[.int, .int], some .int⟩ := by decide +kernel
theorem d7_28 : decode jdk_65_method_121_code 28 = .ok (.invokestatic 150, 3) := by decide +kernel
theorem d7_31 : decode jdk_65_method_121_code 31 = .ok (.aload_n 2, 1) := by decide +kernel
theorem d7_32 : decode jdk_65_method_121_code 32 = .ok (.areturn, 1) := by decide +kernel
theorem ef_rm_copy (m : MethodId) (x0 : Addr) (x1 : Int32) : entryFrame m #[(.ref x0), (.int x1)] 3 = mkF m 0 #[.val (.ref x0), .val (.int x1), .unset] [] := by first | (simp [entryFrame, mkF, argsToLocals, Value.category]; done) | rfl
theorem pn_java_util_Arrays : plainName "java/util/Arrays" = true := by first | (simp [plainName, overriddenIn]; done) | decide +kernel
set_option maxRecDepth 65536 in
set_option maxHeartbeats 40000000 in
theorem rm_copy (l : Launch) (Z : State) (a0 : Array Value) (hw : ∀ d ∈ tables_1, d.before a0 Z = true) (x1 : Addr) (i1 : Int32) (g1 : Nat → Int32) (k1 : Nat) (h0 : Heap) (n0 : Nat) (Z0 : n0 ≤ h0.size) (P0 : ArF Z h0 x1 .byte 1024 (fun i => .int (g1 i))) (hk : i1.toInt = (k1 : Int)) (hr : k1 ≤ 20) :
    Con l Z (⟨"java/util/Arrays", "copyOf", "([BI)[B"⟩ : MethodName) jdk_65_method_121_code 3 (some (.array .byte)) ({ frames := 1, cells := 1, slots := 20, locals := 40 } : Room) #[(.ref x1), (.int i1)] h0 (fun v h L => ∃ (b1 : Addr), v = some (.ref b1) ∧ Fr n0 L ∧ Keep h0 h [] ∧ n0 ≤ b1 ∧ h0.size ≤ b1 ∧ ArF Z h b1 .byte k1 (fun i => .int (g1 i))) := by
  refine meet (y := (⟨"java/util/Arrays", "copyOf", "([BI)[B"⟩ : MethodName)) (Q := fun v h L => ∃ (b1 : Addr), v = some (.ref b1) ∧ Fr n0 L ∧ Keep h0 h [] ∧ n0 ≤ b1 ∧ h0.size ≤ b1 ∧ ArF Z h b1 .byte k1 (fun i => .int (g1 i))) (plainFor_of_name pn_java_util_Arrays) (fun m => ef_rm_copy m x1 i1) ?_
  intro p e s m below meth c T0 hx hby hml hZ hown hnm hret hlk X0 e0
  have N0 := Fr.nil n0
  have K0 := Keep.refl h0 []
  refine g_iloadN X0 hx hby d7_0 (pc' := 1) rfl rfl ?_
  refine g_aloadN X0 hx hby d7_1 (pc' := 2) rfl rfl rfl ?_
  refine Go.alen X0 hx hZ e0 P0 (hb hby d7_2) ?_
  show Go p.tables e below s _ _ _ (T0.setTop (mkF m 3 #[.val (.ref x1), .val (.int i1), .unset] [(.int (1024 : Int32)), (.int i1)]))
  have hc3 : ¬ (i1.toInt = (1024 : Int)) := by omega
  refine g_icmpYes X0 hx hby d7_3 (pc' := 14) (feq (show ¬ (i1 = (1024 : Int32)) from fun q => hc3 (congrArg Int32.toInt q))).2 (by decide) (by decide) ?_
  refine g_iloadN X0 hx hby d7_14 (pc' := 15) rfl rfl ?_
  refine Go.newarr X0 hx hZ (n := k1) (cap := 20) (ty := .byte) rfl (wi hw 9 rfl) e0 (by rw [Int32.lt_iff_toInt_lt]; show ¬ i1.toInt < 0; omega) (nat_idx hk) hr (by decide) (by decide) (by decide) (hb hby d7_15) ?_
  intro T1 h1 b1 X1 e1 E1 hb1 V1
  have g2 : n0 ≤ b1 := by rw [hb1]; exact Z0
  have s3 : h0.size ≤ b1 := by rw [hb1]; exact K0.1
  have V4 : ArF Z h1 b1 .byte k1 (fun i => .int ((fun _ => (0 : Int32)) i)) := V1
  show Go p.tables e below s _ _ _ (T1.setTop (mkF m 17 #[.val (.ref x1), .val (.int i1), .unset] [(.ref b1)]))
  refine g_astoreN X1 hx hby d7_17 (pc' := 18) rfl rfl (L' := #[.val (.ref x1), .val (.int i1), .val (.ref b1)]) rfl ?_
  refine g_aloadN X1 hx hby d7_18 (pc' := 19) rfl rfl rfl ?_
  refine g_iconst X1 hx hby d7_19 (pc' := 20) rfl (z := (0 : Int32)) rfl ?_
  refine g_aloadN X1 hx hby d7_20 (pc' := 21) rfl rfl rfl ?_
  refine g_iconst X1 hx hby d7_21 (pc' := 22) rfl (z := (0 : Int32)) rfl ?_
  refine g_aloadN X1 hx hby d7_22 (pc' := 23) rfl rfl rfl ?_
  have f5 := P0.ext E1
  refine Go.alen X1 hx hZ e1 f5 (hb hby d7_23) ?_
  show Go p.tables e below s _ _ _ (T1.setTop (mkF m 24 #[.val (.ref x1), .val (.int i1), .val (.ref b1)] [(.int (1024 : Int32)), (.int (0 : Int32)), (.ref b1), (.int (0 : Int32)), (.ref x1)]))
  refine g_iloadN X1 hx hby d7_24 (pc' := 25) rfl rfl ?_
  refine Go.callS X1 hx hZ (y := (⟨"java/lang/Math", "min", "(II)I"⟩ : MethodName)) hown (wi hw 41 rfl) (wi hw 42 rfl) (wi hw 43 rfl) (wi hw 44 rfl) (by decide) e1 (argsL := [(.int (1024 : Int32)), (.int i1)]) (rest := [(.int (0 : Int32)), (.ref b1), (.int (0 : Int32)), (.ref x1)]) (W := 4) (rm_min l Z a0 hw (1024 : Int32) i1 h1 n0 (Nat.le_trans Z0 E1.1) (by show i1.toInt < 1024; omega)) (hb hby d7_25) (by rw [hml]; rfl) rfl pd_aIIzI rfl rfl (by decide) (by decide) (by decide) (by decide) ?_
  intro v6 T6 L6 X6 hQ6
  obtain ⟨rfl, Nq6, hh6⟩ := hQ6
  have N6 := Fr.app N0 Nq6
  show Go p.tables e below s _ _ _ (T6.setTop (mkF m 28 #[.val (.ref x1), .val (.int i1), .val (.ref b1)] [(.int i1), (.int (0 : Int32)), (.ref b1), (.int (0 : Int32)), (.ref x1)]))
  refine Go.arraycopy X6 hx hZ hown (wi hw 45 rfl) (wi hw 48 rfl) (wi hw 46 rfl) (wi hw 47 rfl) hh6 f5 V4 rfl (ks := 0) (kd := 0) (kn := k1) rfl rfl hk (by omega) (by omega) N6 g2 (by rw [hml]; rfl) (hb hby d7_28) (by decide) (W := 0) rfl (by decide) ?_
  intro T7 h7 L7 X7 e7 N7 K7 V7
  show Go p.tables e below s _ _ _ (T7.setTop (mkF m 31 #[.val (.ref x1), .val (.int i1), .val (.ref b1)] []))
  refine g_aloadN X7 hx hby d7_31 (pc' := 32) rfl rfl rfl ?_
  refine Go.retA X7 hx hlk hret rfl rfl (hb hby d7_32) (by decide) (by decide) ?_
  have VC : ArF Z h7 b1 .byte k1 (fun i => .int (g1 i)) := (V7.cpI).congr (fun i hi => by simp [cpT, hi])
  rw [e7]
  exact ⟨b1, rfl, N7, ((K0.ext E1).trans K7 (allS (Or.inr s3) all0)), g2, s3, VC⟩
theorem d6_0 : decode prog_67_method_9_code 0 = .ok (.aload_n 0, 1) := by decide +kernel
theorem d6_1 : decode prog_67_method_9_code 1 = .ok (.getfield 7, 3) := by decide +kernel
theorem d6_4 : decode prog_67_method_9_code 4 = .ok (.aload_n 0, 1) := by decide +kernel
theorem d6_5 : decode prog_67_method_9_code 5 = .ok (.getfield 13, 3) := by decide +kernel
theorem d6_8 : decode prog_67_method_9_code 8 = .ok (.invokestatic 55, 3) := by decide +kernel
theorem pd_ayBIzyB : parseMethodDescriptor "([BI)[B" = some ⟨[(.array .byte), .int], some (.array .byte)⟩ := by decide +kernel
theorem d6_11 : decode prog_67_method_9_code 11 = .ok (.areturn, 1) := by decide +kernel
theorem ef_rm_bytes (m : MethodId) (x0 : Addr) : entryFrame m #[(.ref x0)] 1 = mkF m 0 #[.val (.ref x0)] [] := by first | (simp [entryFrame, mkF, argsToLocals, Value.category]; done) | rfl
set_option maxRecDepth 65536 in
set_option maxHeartbeats 40000000 in
theorem rm_bytes (l : Launch) (Z : State) (a0 : Array Value) (hw : ∀ d ∈ tables_1, d.before a0 Z = true) (a1 : Addr) (x1 : Addr) (t1 : Int32) (g1 : Nat → Int32) (k1 : Nat) (h0 : Heap) (n0 : Nat) (Z0 : n0 ≤ h0.size) (P0 : Fld Z h0 a1 "com/example/validated_xml_store/validatedxmlstore/PackedBytes$Writer" "bytes" "[B" (.ref x1)) (P1 : Fld Z h0 a1 "com/example/validated_xml_store/validatedxmlstore/PackedBytes$Writer" "length" "I" (.int t1)) (P2 : ArF Z h0 x1 .byte 1024 (fun i => .int (g1 i))) (hk : t1.toInt = (k1 : Int)) (hr : k1 ≤ 20) :
    Con l Z (⟨"com/example/validated_xml_store/validatedxmlstore/PackedBytes$Writer", "bytes", "()[B"⟩ : MethodName) prog_67_method_9_code 1 (some (.array .byte)) ({ frames := 2, cells := 1, slots := 20, locals := 54 } : Room) #[(.ref a1)] h0 (fun v h L => ∃ (b1 : Addr), v = some (.ref b1) ∧ Fr n0 L ∧ Keep h0 h [] ∧ n0 ≤ b1 ∧ h0.size ≤ b1 ∧ ArF Z h b1 .byte k1 (fun i => .int (g1 i))) := by
  refine meet (y := (⟨"com/example/validated_xml_store/validatedxmlstore/PackedBytes$Writer", "bytes", "()[B"⟩ : MethodName)) (Q := fun v h L => ∃ (b1 : Addr), v = some (.ref b1) ∧ Fr n0 L ∧ Keep h0 h [] ∧ n0 ≤ b1 ∧ h0.size ≤ b1 ∧ ArF Z h b1 .byte k1 (fun i => .int (g1 i))) (plainFor_of_name pn_com_example_validated_xml_store_validatedxmlstore_PackedBytes_Writer) (fun m => ef_rm_bytes m a1) ?_
  intro p e s m below meth c T0 hx hby hml hZ hown hnm hret hlk X0 e0
  have N0 := Fr.nil n0
  have K0 := Keep.refl h0 []
  refine g_aloadN X0 hx hby d6_0 (pc' := 1) rfl rfl rfl ?_
  refine g_getf X0 hx hby hZ hown (host := "") (Or.inl (wi hw 10 rfl)) Via.refl e0 P0 d6_1 (pc' := 4) rfl ?_
  intro T1 X1 e1
  refine g_aloadN X1 hx hby d6_4 (pc' := 5) rfl rfl rfl ?_
  refine g_getf X1 hx hby hZ hown (host := "") (Or.inl (wi hw 21 rfl)) Via.refl e1 P1 d6_5 (pc' := 8) rfl ?_
  intro T2 X2 e2
  refine Go.callS X2 hx hZ (y := (⟨"java/util/Arrays", "copyOf", "([BI)[B"⟩ : MethodName)) hown (wi hw 37 rfl) (wi hw 38 rfl) (wi hw 39 rfl) (wi hw 40 rfl) (by decide) e2 (argsL := [(.ref x1), (.int t1)]) (rest := []) (W := 0) (rm_copy l Z a0 hw x1 t1 g1 k1 h0 n0 Z0 P2 hk hr) (hb hby d6_8) (by rw [hml]; rfl) rfl pd_ayBIzyB rfl rfl (by decide) (by decide) (by decide) (by decide) ?_
  intro v3 T3 L3 X3 hQ3
  obtain ⟨h3, e3⟩ : ∃ z, T3.heap = z := ⟨_, rfl⟩
  rw [e3] at hQ3
  obtain ⟨b1_3, rfl, Nq3, Kq3, gqb1_3, sqb1_3, Fq0_3⟩ := hQ3
  have N3 := Fr.app N0 Nq3
  have s4 : h0.size ≤ b1_3 := Nat.le_trans K0.1 sqb1_3
  show Go p.tables e below s _ _ _ (T3.setTop (mkF m 11 #[.val (.ref a1)] [(.ref b1_3)]))
  refine Go.retA X3 hx hlk hret rfl rfl (hb hby d6_11) (by decide) (by decide) ?_
  rw [e3]
  exact ⟨b1_3, rfl, N3, (K0.trans Kq3 all0), gqb1_3, s4, Fq0_3⟩
theorem d9_0 : decode prog_66_method_1_code 0 = .ok (.aload_n 0, 1) := by decide +kernel
theorem d9_1 : decode prog_66_method_1_code 1 = .ok (.invokespecial 1, 3) := by decide +kernel
theorem d9_4 : decode prog_66_method_1_code 4 = .ok (.aload_n 0, 1) := by decide +kernel
theorem d9_5 : decode prog_66_method_1_code 5 = .ok (.aload_n 1, 1) := by decide +kernel
theorem d9_6 : decode prog_66_method_1_code 6 = .ok (.putfield 7, 3) := by decide +kernel
theorem d9_9 : decode prog_66_method_1_code 9 = .ok (.return_, 1) := by decide +kernel
theorem ef_rm_rinit (m : MethodId) (x0 : Addr) (x1 : Addr) : entryFrame m #[(.ref x0), (.ref x1)] 2 = mkF m 0 #[.val (.ref x0), .val (.ref x1)] [] := by first | (simp [entryFrame, mkF, argsToLocals, Value.category]; done) | rfl
theorem pn_com_example_validated_xml_store_validatedxmlstore_PackedBytes_Reader : plainName "com/example/validated_xml_store/validatedxmlstore/PackedBytes$Reader" = true := by first | (simp [plainName, overriddenIn]; done) | decide +kernel
set_option maxRecDepth 65536 in
set_option maxHeartbeats 40000000 in
theorem rm_rinit (l : Launch) (Z : State) (a0 : Array Value) (hw : ∀ d ∈ tables_1, d.before a0 Z = true) (a1 : Addr) (x1 : Addr) (t1 : Int32) (h0 : Heap) (n0 : Nat) (Z0 : n0 ≤ h0.size) (P0 : Exa Z h0 a1 "com/example/validated_xml_store/validatedxmlstore/PackedBytes$Reader") (P1 : Fld Z h0 a1 "com/example/validated_xml_store/validatedxmlstore/PackedBytes$Reader" "bytes" "[B" .null) (P2 : Fld Z h0 a1 "com/example/validated_xml_store/validatedxmlstore/PackedBytes$Reader" "at" "I" (.int t1)) (ge_a1 : n0 ≤ a1) :
    Con l Z (⟨"com/example/validated_xml_store/validatedxmlstore/PackedBytes$Reader", "<init>", "([B)V"⟩ : MethodName) prog_66_method_1_code 2 none ({ frames := 1, cells := 0, slots := 0, locals := 12 } : Room) #[(.ref a1), (.ref x1)] h0 (fun v h L => v = none ∧ Fr n0 L ∧ Keep h0 h [a1] ∧ Fld Z h a1 "com/example/validated_xml_store/validatedxmlstore/PackedBytes$Reader" "bytes" "[B" (.ref x1) ∧ Fld Z h a1 "com/example/validated_xml_store/validatedxmlstore/PackedBytes$Reader" "at" "I" (.int t1)) := by
  refine meet (y := (⟨"com/example/validated_xml_store/validatedxmlstore/PackedBytes$Reader", "<init>", "([B)V"⟩ : MethodName)) (Q := fun v h L => v = none ∧ Fr n0 L ∧ Keep h0 h [a1] ∧ Fld Z h a1 "com/example/validated_xml_store/validatedxmlstore/PackedBytes$Reader" "bytes" "[B" (.ref x1) ∧ Fld Z h a1 "com/example/validated_xml_store/validatedxmlstore/PackedBytes$Reader" "at" "I" (.int t1)) (plainFor_of_name pn_com_example_validated_xml_store_validatedxmlstore_PackedBytes_Reader) (fun m => ef_rm_rinit m a1 x1) ?_
  intro p e s m below meth c T0 hx hby hml hZ hown hnm hret hlk X0 e0
  have N0 := Fr.nil n0
  have K0 := Keep.refl h0 [a1]
  refine g_aloadN X0 hx hby d9_0 (pc' := 1) rfl rfl rfl ?_
  refine g_init X0 hx hby hZ hown (wi hw 52 rfl) (wi hw 7 rfl) (wi hw 8 rfl) e0 (by rw [hml]; rfl) d9_1 (pc' := 4) rfl (by decide) (W := 0) rfl (by decide) ?_
  intro T1 X1 e1
  refine g_aloadN X1 hx hby d9_4 (pc' := 5) rfl rfl rfl ?_
  refine g_aloadN X1 hx hby d9_5 (pc' := 6) rfl rfl rfl ?_
  refine g_putf X1 hx hby hZ hown (host := "") (Or.inl (wi hw 53 rfl)) Via.refl e1 P1 P0 (Or.inr ⟨(wi hw 54 rfl), rfl, hnm⟩) (wi hw 30 rfl) (ty := (.array .byte)) (by decide) rfl rfl d9_6 (pc' := 9) rfl ?_
  intro T2 h2 X2 e2 W2 F2
  refine Go.retV X2 hx hlk hret (hb hby d9_9) rfl (by decide) (by decide) ?_
  rw [e2]
  have f3 := (P2.other W2 (Or.inr (slot_ne (Or.inl (wi hw 61 rfl)) (Or.inr (wi hw 54 rfl)) (by decide) (t := .int) (t' := (.array .byte)) (by decide) (by decide))))
  exact ⟨rfl, (Fr.snoc X2 N0 ge_a1), (K0.wr W2 (Or.inl (List.mem_of_getElem? (i := 0) rfl))), F2, f3⟩
theorem d10_0 : decode prog_66_method_7_code 0 = .ok (.lconst 0, 1) := by decide +kernel
theorem d10_1 : decode prog_66_method_7_code 1 = .ok (.lstore_n 1, 1) := by decide +kernel
theorem d10_2 : decode prog_66_method_7_code 2 = .ok (.iconst 0, 1) := by decide +kernel
theorem d10_3 : decode prog_66_method_7_code 3 = .ok (.istore_n 3, 1) := by decide +kernel
theorem d10_4 : decode prog_66_method_7_code 4 = .ok (.aload_n 0, 1) := by decide +kernel
theorem d10_5 : decode prog_66_method_7_code 5 = .ok (.getfield 7, 3) := by decide +kernel
theorem d10_8 : decode prog_66_method_7_code 8 = .ok (.aload_n 0, 1) := by decide +kernel
theorem d10_9 : decode prog_66_method_7_code 9 = .ok (.dup, 1) := by decide +kernel
theorem d10_10 : decode prog_66_method_7_code 10 = .ok (.getfield 13, 3) := by decide +kernel
theorem d10_13 : decode prog_66_method_7_code 13 = .ok (.dup_x1, 1) := by decide +kernel
theorem d10_14 : decode prog_66_method_7_code 14 = .ok (.iconst 1, 1) := by decide +kernel
theorem d10_15 : decode prog_66_method_7_code 15 = .ok (.iadd, 1) := by decide +kernel
theorem d10_16 : decode prog_66_method_7_code 16 = .ok (.putfield 13, 3) := by decide +kernel
theorem d10_19 : decode prog_66_method_7_code 19 = .ok (.baload, 1) := by decide +kernel
theorem d10_20 : decode prog_66_method_7_code 20 = .ok (.istore 4, 2) := by decide +kernel
theorem d10_22 : decode prog_66_method_7_code 22 = .ok (.lload_n 1, 1) := by decide +kernel
theorem d10_23 : decode prog_66_method_7_code 23 = .ok (.iload 4, 2) := by decide +kernel
theorem d10_25 : decode prog_66_method_7_code 25 = .ok (.bipush 127, 2) := by decide +kernel
theorem d10_27 : decode prog_66_method_7_code 27 = .ok (.iand, 1) := by decide +kernel
theorem d10_28 : decode prog_66_method_7_code 28 = .ok (.i2l, 1) := by decide +kernel
theorem d10_29 : decode prog_66_method_7_code 29 = .ok (.iload_n 3, 1) := by decide +kernel
theorem d10_30 : decode prog_66_method_7_code 30 = .ok (.lshl, 1) := by decide +kernel
theorem d10_31 : decode prog_66_method_7_code 31 = .ok (.lor, 1) := by decide +kernel
theorem d10_32 : decode prog_66_method_7_code 32 = .ok (.lstore_n 1, 1) := by decide +kernel
theorem d10_33 : decode prog_66_method_7_code 33 = .ok (.iinc 3 7, 3) := by decide +kernel
theorem d10_36 : decode prog_66_method_7_code 36 = .ok (.iload 4, 2) := by decide +kernel
theorem d10_38 : decode prog_66_method_7_code 38 = .ok (.ifCond .lt (-34), 3) := by decide +kernel
theorem d10_41 : decode prog_66_method_7_code 41 = .ok (.lload_n 1, 1) := by decide +kernel
theorem d10_42 : decode prog_66_method_7_code 42 = .ok (.iconst 1, 1) := by decide +kernel
theorem d10_43 : decode prog_66_method_7_code 43 = .ok (.lushr, 1) := by decide +kernel
theorem d10_44 : decode prog_66_method_7_code 44 = .ok (.lload_n 1, 1) := by decide +kernel
theorem d10_45 : decode prog_66_method_7_code 45 = .ok (.lconst 1, 1) := by decide +kernel
theorem d10_46 : decode prog_66_method_7_code 46 = .ok (.land, 1) := by decide +kernel
theorem d10_47 : decode prog_66_method_7_code 47 = .ok (.lneg, 1) := by decide +kernel
theorem d10_48 : decode prog_66_method_7_code 48 = .ok (.lxor, 1) := by decide +kernel
theorem d10_49 : decode prog_66_method_7_code 49 = .ok (.lreturn, 1) := by decide +kernel
theorem ef_rm_signed (m : MethodId) (x0 : Addr) : entryFrame m #[(.ref x0)] 5 = mkF m 0 #[.val (.ref x0), .unset, .unset, .unset, .unset] [] := by first | (simp [entryFrame, mkF, argsToLocals, Value.category]; done) | rfl
set_option maxRecDepth 65536 in
set_option maxHeartbeats 40000000 in
theorem rm_signed (l : Launch) (Z : State) (a0 : Array Value) (hw : ∀ d ∈ tables_1, d.before a0 Z = true) (a1 : Addr) (x1 : Addr) (t1 : Int32) (n1 : Nat) (g1 : Nat → Int32) (k1 : Nat) (Nn : Nat) (Lw : Nat) (h0 : Heap) (n0 : Nat) (Z0 : n0 ≤ h0.size) (P0 : Exa Z h0 a1 "com/example/validated_xml_store/validatedxmlstore/PackedBytes$Reader") (P1 : Fld Z h0 a1 "com/example/validated_xml_store/validatedxmlstore/PackedBytes$Reader" "bytes" "[B" (.ref x1)) (P2 : Fld Z h0 a1 "com/example/validated_xml_store/validatedxmlstore/PackedBytes$Reader" "at" "I" (.int t1)) (P3 : ArF Z h0 x1 .byte n1 (fun i => .int (g1 i))) (ne_x1_a1 : x1 ≠ a1) (ge_a1 : n0 ≤ a1) (hk : t1.toInt = (k1 : Int)) (hN : Nn < 2 ^ 64) (hL : 1 ≤ Lw ∧ Lw ≤ 10) (hLe : Nn / 128 ^ (Lw - 1) < 128) (hLa : ∀ i, i + 1 < Lw → 128 ≤ Nn / 128 ^ i) (hn : k1 + Lw ≤ n1) (hg : ∀ i, i < Lw → g1 (k1 + i) = own_byM (Nn / 128 ^ i)) :
    Con l Z (⟨"com/example/validated_xml_store/validatedxmlstore/PackedBytes$Reader", "signed", "()J"⟩ : MethodName) prog_66_method_7_code 5 (some .long) ({ frames := 0, cells := 0, slots := 0, locals := 0 } : Room) #[(.ref a1)] h0 (fun v h L => ∃ (t9 : Int32), v = some (.long (own_sg Nn)) ∧ Fr n0 L ∧ Keep h0 h [a1] ∧ Fld Z h a1 "com/example/validated_xml_store/validatedxmlstore/PackedBytes$Reader" "bytes" "[B" (.ref x1) ∧ Fld Z h a1 "com/example/validated_xml_store/validatedxmlstore/PackedBytes$Reader" "at" "I" (.int t9) ∧ (t9.toInt = ((k1 + Lw : Nat) : Int))) := by
  refine meet (y := (⟨"com/example/validated_xml_store/validatedxmlstore/PackedBytes$Reader", "signed", "()J"⟩ : MethodName)) (Q := fun v h L => ∃ (t9 : Int32), v = some (.long (own_sg Nn)) ∧ Fr n0 L ∧ Keep h0 h [a1] ∧ Fld Z h a1 "com/example/validated_xml_store/validatedxmlstore/PackedBytes$Reader" "bytes" "[B" (.ref x1) ∧ Fld Z h a1 "com/example/validated_xml_store/validatedxmlstore/PackedBytes$Reader" "at" "I" (.int t9) ∧ (t9.toInt = ((k1 + Lw : Nat) : Int))) (plainFor_of_name pn_com_example_validated_xml_store_validatedxmlstore_PackedBytes_Reader) (fun m => ef_rm_signed m a1) ?_
  intro p e s m below meth c T0 hx hby hml hZ hown hnm hret hlk X0 e0
  have N0 := Fr.nil n0
  have K0 := Keep.refl h0 [a1]
  refine Go.of (fun _ k => XS.lconst X0.here hx rfl (hb hby d10_0) k) ?_
  show Go p.tables e below s _ _ _ (T0.setTop (mkF m 1 #[.val (.ref a1), .unset, .unset, .unset, .unset] [(.long (0 : Int64))]))
  refine g_lstoreN X0 hx hby d10_1 (pc' := 2) rfl (L' := #[.val (.ref a1), .val (.long (0 : Int64)), .second, .unset, .unset]) rfl ?_
  refine g_iconst X0 hx hby d10_2 (pc' := 3) rfl (z := (0 : Int32)) rfl ?_
  refine g_istoreN X0 hx hby d10_3 (pc' := 4) rfl (L' := #[.val (.ref a1), .val (.long (0 : Int64)), .second, .val (.int (0 : Int32)), .unset]) rfl ?_
  have hl := P3.len
  refine Go.loop (α := State × (List Loc) × Heap × Int32 × Int64 × Int32 × Nat × Slot) (P := fun kq x => (fun (Tj4 : State) (Lj4 : List Loc) (hj4 : Heap) (tv : Int32) (qv : Int64) (sv : Int32) (jv : Nat) (sl : Slot) => Stand p l e ({ frames := 0, cells := 0, slots := 0, locals := 0 } : Room) s m #[(.ref a1)] below meth c Tj4 Lj4 0 0 ∧ Tj4.heap = hj4 ∧ Fr n0 Lj4 ∧ n0 ≤ hj4.size ∧ Keep h0 hj4 [a1] ∧ Exa Z hj4 a1 "com/example/validated_xml_store/validatedxmlstore/PackedBytes$Reader" ∧ Fld Z hj4 a1 "com/example/validated_xml_store/validatedxmlstore/PackedBytes$Reader" "bytes" "[B" (.ref x1) ∧ Fld Z hj4 a1 "com/example/validated_xml_store/validatedxmlstore/PackedBytes$Reader" "at" "I" (.int tv) ∧ ArF Z hj4 x1 .byte n1 (fun i => .int (g1 i)) ∧ (tv.toInt = ((k1 + jv : Nat) : Int) ∧ sv.toInt = 7 * (jv : Int) ∧ jv < Lw ∧ kq = Lw - jv ∧ own_U qv = Nn % 128 ^ jv ∧ One sl)) x.1 x.2.1 x.2.2.1 x.2.2.2.1 x.2.2.2.2.1 x.2.2.2.2.2.1 x.2.2.2.2.2.2.1 x.2.2.2.2.2.2.2) (F := fun x => (fun (Tj4 : State) (Lj4 : List Loc) (hj4 : Heap) (tv : Int32) (qv : Int64) (sv : Int32) (jv : Nat) (sl : Slot) => Tj4.setTop (mkF m 4 #[.val (.ref a1), .val (.long qv), .second, .val (.int sv), sl] [])) x.1 x.2.1 x.2.2.1 x.2.2.2.1 x.2.2.2.2.1 x.2.2.2.2.2.1 x.2.2.2.2.2.2.1 x.2.2.2.2.2.2.2) ?_ (Lw) (T0, _, h0, t1, (0 : Int64), (0 : Int32), 0, .unset) ⟨X0.more (by decide) (by decide), e0, N0, Z0, K0, P0, P1, P2, P3, (show t1.toInt = ((k1 + 0 : Nat) : Int) ∧ (0 : Int32).toInt = 7 * (0 : Int) ∧ 0 < Lw ∧ (Lw) = Lw - 0 ∧ own_U (0 : Int64) = Nn % 128 ^ 0 ∧ One .unset from ⟨by simpa using hk, rfl, by omega, rfl, by show 0 = Nn % 1; omega, One.u⟩)⟩
  rintro kq ⟨Tj4, Lj4, hj4, tv, qv, sv, jv, sl⟩ hP4 IH4
  obtain ⟨Xj4, ej4, Nj4, zj4, Kj4, fj4_0, fj4_1, fj4_2, fj4_3, hJ4⟩ : Stand p l e ({ frames := 0, cells := 0, slots := 0, locals := 0 } : Room) s m #[(.ref a1)] below meth c Tj4 Lj4 0 0 ∧ Tj4.heap = hj4 ∧ Fr n0 Lj4 ∧ n0 ≤ hj4.size ∧ Keep h0 hj4 [a1] ∧ Exa Z hj4 a1 "com/example/validated_xml_store/validatedxmlstore/PackedBytes$Reader" ∧ Fld Z hj4 a1 "com/example/validated_xml_store/validatedxmlstore/PackedBytes$Reader" "bytes" "[B" (.ref x1) ∧ Fld Z hj4 a1 "com/example/validated_xml_store/validatedxmlstore/PackedBytes$Reader" "at" "I" (.int tv) ∧ ArF Z hj4 x1 .byte n1 (fun i => .int (g1 i)) ∧ (tv.toInt = ((k1 + jv : Nat) : Int) ∧ sv.toInt = 7 * (jv : Int) ∧ jv < Lw ∧ kq = Lw - jv ∧ own_U qv = Nn % 128 ^ jv ∧ One sl) := hP4
  show Go p.tables e below s _ _ _ (Tj4.setTop (mkF m 4 #[.val (.ref a1), .val (.long qv), .second, .val (.int sv), sl] []))
  obtain ⟨hjt, hjs, hjL, hjk, hjq, hone⟩ := hJ4
  refine g_aloadN Xj4 hx hby d10_4 (pc' := 5) rfl rfl rfl ?_
  refine g_getf Xj4 hx hby hZ hown (host := "") (Or.inl (wi hw 53 rfl)) Via.refl ej4 fj4_1 d10_5 (pc' := 8) rfl ?_
  intro T1 X1 e1
  refine g_aloadN X1 hx hby d10_8 (pc' := 9) rfl rfl rfl ?_
  refine g_dup X1 hx hby d10_9 (pc' := 10) rfl rfl ?_
  refine g_getf X1 hx hby hZ hown (host := "") (Or.inl (wi hw 60 rfl)) Via.refl e1 fj4_2 d10_10 (pc' := 13) rfl ?_
  intro T2 X2 e2
  refine g_dup_x1 X2 hx hby d10_13 (pc' := 14) rfl rfl rfl ?_
  refine g_iconst X2 hx hby d10_14 (pc' := 15) rfl (z := (1 : Int32)) rfl ?_
  refine g_iadd X2 hx hby d10_15 (pc' := 16) rfl rfl ?_
  refine g_putf X2 hx hby hZ hown (host := "") (Or.inl (wi hw 60 rfl)) Via.refl e2 fj4_2 fj4_0 (Or.inl (wi hw 61 rfl)) (wi hw 30 rfl) (ty := .int) (by decide) rfl rfl d10_16 (pc' := 19) rfl ?_
  intro T3 h3 X3 e3 W3 F3
  obtain ⟨tvn, ht19⟩ : ∃ z, (tv + (1 : Int32)) = z := ⟨_, rfl⟩
  have FA19 : Fld Z h3 a1 "com/example/validated_xml_store/validatedxmlstore/PackedBytes$Reader" "at" "I" (.int tvn) := by rw [← ht19]; exact F3
  have f4 := fj4_3.other W3 ne_x1_a1
  refine Go.baload X3 hx hZ e3 f4 (k := (k1 + jv)) hjt (by omega) (hb hby d10_19) ?_
  show Go p.tables e below s _ _ _ (T3.setTop (mkF m 20 #[.val (.ref a1), .val (.long qv), .second, .val (.int sv), sl] [(.int (g1 (k1 + jv)))]))
  have hbv : g1 (k1 + jv) = own_byM (Nn / 128 ^ jv) := hg jv hjL
  rw [hbv]
  show Go p.tables e below s _ _ _ (T3.setTop (mkF m 20 #[.val (.ref a1), .val (.long qv), .second, .val (.int sv), sl] [(.int (own_byM (Nn / 128 ^ jv)))]))
  show Go p.tables e below s _ _ _ (T3.setTop (mkF m 20 #[.val (.ref a1), .val (.long qv), .second, .val (.int sv), sl] [(.int (own_byM (Nn / 128 ^ jv)))]))
  generalize hbv5 : (own_byM (Nn / 128 ^ jv)) = bv5
  have hby2 := own_by_neg (Nn / 128 ^ jv)
  rw [hbv5] at hby2
  have hsl : storeLocals #[.val (.ref a1), .val (.long qv), .second, .val (.int sv), sl] 4 (.int bv5) = some #[.val (.ref a1), .val (.long qv), .second, .val (.int sv), .val (.int bv5)] := by
    rcases hone with rfl | ⟨w9, rfl, hw9⟩
    · rfl
    · cases w9 <;> first | rfl | (simp [Value.category] at hw9)
  refine g_istore X3 hx hby d10_20 (pc' := 22) rfl hsl ?_
  show Go p.tables e below s _ _ _ (T3.setTop (mkF m 22 #[.val (.ref a1), .val (.long qv), .second, .val (.int sv), .val (.int bv5)] []))
  refine g_lloadN X3 hx hby d10_22 (pc' := 23) rfl rfl ?_
  refine g_iload X3 hx hby d10_23 (pc' := 25) rfl rfl ?_
  refine g_bipush X3 hx hby d10_25 (pc' := 27) rfl (z := (127 : Int32)) rfl ?_
  refine g_iand X3 hx hby d10_27 (pc' := 28) rfl rfl ?_
  refine g_i2l X3 hx hby d10_28 (pc' := 29) rfl rfl ?_
  refine g_iloadN X3 hx hby d10_29 (pc' := 30) rfl rfl ?_
  refine g_lshl X3 hx hby d10_30 (pc' := 31) rfl rfl ?_
  refine g_lor X3 hx hby d10_31 (pc' := 32) rfl rfl ?_
  show Go p.tables e below s _ _ _ (T3.setTop (mkF m 32 #[.val (.ref a1), .val (.long qv), .second, .val (.int sv), .val (.int bv5)] [(.long (qv ||| (((bv5 &&& (127 : Int32)).toInt64) <<< (sv &&& 0x3f).toInt64)))]))
  generalize hv6 : (qv ||| (((bv5 &&& (127 : Int32)).toInt64) <<< (sv &&& 0x3f).toInt64)) = v6
  refine g_lstoreN X3 hx hby d10_32 (pc' := 33) rfl (L' := #[.val (.ref a1), .val (.long v6), .second, .val (.int sv), .val (.int bv5)]) rfl ?_
  have hacc : own_U v6 = Nn % 128 ^ (jv + 1) := by rw [← hv6]; exact own_acc Nn jv hN (by omega) qv _ sv hjs hjq hby2.2
  refine g_iinc X3 hx hby d10_33 (pc' := 36) rfl rfl (L' := #[.val (.ref a1), .val (.long v6), .second, .val (.int (sv + (7 : Int32))), .val (.int bv5)]) rfl ?_
  refine g_iload X3 hx hby d10_36 (pc' := 38) rfl rfl ?_
  by_cases hc38 : bv5.toInt < (0 : Int)
  · refine g_ifYes X3 hx hby d10_38 (pc' := 4) (tlt (show bv5 < (0 : Int32) from Int32.lt_iff_toInt_lt.mpr hc38)).1 (by decide) (by decide) ?_
    have hjn : jv + 1 < Lw := by
      rcases Nat.lt_or_ge (jv + 1) Lw with q | q
      · exact q
      · have e : Lw - 1 = jv := by omega
        rw [e] at hLe
        have := hby2.1.mp hc38
        omega
    have f7 := fj4_0.wr W3
    have f8 := (fj4_1.other W3 (Or.inr (slot_ne (Or.inr (wi hw 54 rfl)) (Or.inl (wi hw 61 rfl)) (by decide) (t := (.array .byte)) (t' := .int) (by decide) (by decide))))
    exact IH4 (Lw - (jv + 1)) (T3, _, h3, tvn, v6, (sv + (7 : Int32)), (jv + 1), (.val (.int bv5))) (by omega) ⟨X3.more (by decide) (by decide), e3, (Fr.snoc X3 Nj4 ge_a1), (Nat.le_trans zj4 (Nat.le_of_eq (Wr.size W3).symm)), (Kj4.wr W3 (Or.inl (List.mem_of_getElem? (i := 0) rfl))), f7, f8, FA19, f4, (show tvn.toInt = ((k1 + (jv + 1) : Nat) : Int) ∧ (sv + (7 : Int32)).toInt = 7 * ((jv + 1) : Int) ∧ (jv + 1) < Lw ∧ (Lw - (jv + 1)) = Lw - (jv + 1) ∧ own_U v6 = Nn % 128 ^ (jv + 1) ∧ One (.val (.int bv5)) from ⟨by rw [← ht19]; have : ((tv + (1 : Int32)).toInt - (tv.toInt + (1))) % 4294967296 = 0 := c_iadd _ _; have : -2147483648 ≤ (tv + (1 : Int32)).toInt ∧ (tv + (1 : Int32)).toInt < 2147483648 := rng32 _; have : -2147483648 ≤ tv.toInt ∧ tv.toInt < 2147483648 := rng32 _; omega, by have : ((sv + (7 : Int32)).toInt - (sv.toInt + (7))) % 4294967296 = 0 := c_iadd _ _; have : -2147483648 ≤ (sv + (7 : Int32)).toInt ∧ (sv + (7 : Int32)).toInt < 2147483648 := rng32 _; have : -2147483648 ≤ sv.toInt ∧ sv.toInt < 2147483648 := rng32 _; omega, hjn, by omega, hacc, One.val rfl⟩)⟩
  · refine g_ifNo X3 hx hby d10_38 (pc' := 41) (flt (show ¬ (bv5 < (0 : Int32)) from fun q => hc38 (Int32.lt_iff_toInt_lt.mp q))).1 rfl ?_
    refine g_lloadN X3 hx hby d10_41 (pc' := 42) rfl rfl ?_
    refine g_iconst X3 hx hby d10_42 (pc' := 43) rfl (z := (1 : Int32)) rfl ?_
    refine g_lushr X3 hx hby d10_43 (pc' := 44) rfl rfl ?_
    refine g_lloadN X3 hx hby d10_44 (pc' := 45) rfl rfl ?_
    refine Go.of (fun _ k => XS.lconst X3.here hx rfl (hb hby d10_45) k) ?_
    show Go p.tables e below s _ _ _ (T3.setTop (mkF m 46 #[.val (.ref a1), .val (.long v6), .second, .val (.int (sv + (7 : Int32))), .val (.int bv5)] [(.long (1 : Int64)), (.long v6), (.long ((v6.toUInt64 >>> ((1 : Int32) &&& 0x3f).toInt64.toUInt64).toInt64))]))
    refine g_land X3 hx hby d10_46 (pc' := 47) rfl rfl ?_
    refine g_lneg X3 hx hby d10_47 (pc' := 48) rfl rfl ?_
    refine g_lxor X3 hx hby d10_48 (pc' := 49) rfl rfl ?_
    refine Go.retL X3 hx hlk hret (hb hby d10_49) (by decide) (by decide) ?_
    have hend : jv + 1 = Lw := by
      rcases Nat.lt_or_ge (jv + 1) Lw with q | q
      · exact absurd (hby2.1.mpr (hLa jv q)) hc38
      · omega
    have hNq : own_U v6 = Nn := by rw [hacc]; exact own_mod Nn jv (by have e : Lw - 1 = jv := by omega
                                                                      rw [← e]; exact hLe)
    rw [e3]
    have f9 := (fj4_1.other W3 (Or.inr (slot_ne (Or.inr (wi hw 54 rfl)) (Or.inl (wi hw 61 rfl)) (by decide) (t := (.array .byte)) (t' := .int) (by decide) (by decide))))
    exact ⟨tvn, (by rw [own_sg, ← own_ofU v6, hNq]; rfl), (Fr.snoc X3 Nj4 ge_a1), (Kj4.wr W3 (Or.inl (List.mem_of_getElem? (i := 0) rfl))), f9, FA19, (by rw [← ht19, ← hend]; have : ((tv + (1 : Int32)).toInt - (tv.toInt + (1))) % 4294967296 = 0 := c_iadd _ _; have : -2147483648 ≤ (tv + (1 : Int32)).toInt ∧ (tv + (1 : Int32)).toInt < 2147483648 := rng32 _; have : -2147483648 ≤ tv.toInt ∧ tv.toInt < 2147483648 := rng32 _; omega)⟩
theorem d11_0 : decode prog_66_method_2_code 0 = .ok (.aload_n 0, 1) := by decide +kernel
theorem d11_1 : decode prog_66_method_2_code 1 = .ok (.getfield 13, 3) := by decide +kernel
theorem d11_4 : decode prog_66_method_2_code 4 = .ok (.ireturn, 1) := by decide +kernel
theorem ef_rm_at (m : MethodId) (x0 : Addr) : entryFrame m #[(.ref x0)] 1 = mkF m 0 #[.val (.ref x0)] [] := by first | (simp [entryFrame, mkF, argsToLocals, Value.category]; done) | rfl
set_option maxRecDepth 65536 in
set_option maxHeartbeats 40000000 in
theorem rm_at (l : Launch) (Z : State) (a0 : Array Value) (hw : ∀ d ∈ tables_1, d.before a0 Z = true) (a1 : Addr) (t1 : Int32) (h0 : Heap) (n0 : Nat) (Z0 : n0 ≤ h0.size) (P0 : Fld Z h0 a1 "com/example/validated_xml_store/validatedxmlstore/PackedBytes$Reader" "at" "I" (.int t1)) :
    Con l Z (⟨"com/example/validated_xml_store/validatedxmlstore/PackedBytes$Reader", "at", "()I"⟩ : MethodName) prog_66_method_2_code 1 (some .int) ({ frames := 0, cells := 0, slots := 0, locals := 0 } : Room) #[(.ref a1)] h0 (fun v h L => v = some (.int t1) ∧ Fr n0 L ∧ h = h0) := by
  refine meet (y := (⟨"com/example/validated_xml_store/validatedxmlstore/PackedBytes$Reader", "at", "()I"⟩ : MethodName)) (Q := fun v h L => v = some (.int t1) ∧ Fr n0 L ∧ h = h0) (plainFor_of_name pn_com_example_validated_xml_store_validatedxmlstore_PackedBytes_Reader) (fun m => ef_rm_at m a1) ?_
  intro p e s m below meth c T0 hx hby hml hZ hown hnm hret hlk X0 e0
  have N0 := Fr.nil n0
  refine g_aloadN X0 hx hby d11_0 (pc' := 1) rfl rfl rfl ?_
  refine g_getf X0 hx hby hZ hown (host := "") (Or.inl (wi hw 60 rfl)) Via.refl e0 P0 d11_1 (pc' := 4) rfl ?_
  intro T1 X1 e1
  refine Go.retI X1 hx hlk hret (hb hby d11_4) (by decide) (by decide) ?_
  exact ⟨rfl, N0, e1⟩
theorem pd_azV : parseMethodDescriptor "()V" = some ⟨[], none⟩ := by decide +kernel
theorem pd_aJzV : parseMethodDescriptor "(J)V" = some ⟨[.long], none⟩ := by decide +kernel
theorem pd_azI : parseMethodDescriptor "()I" = some ⟨[], some .int⟩ := by decide +kernel
theorem pd_azyB : parseMethodDescriptor "()[B" = some ⟨[], some (.array .byte)⟩ := by decide +kernel
theorem pd_ayBzV : parseMethodDescriptor "([B)V" = some ⟨[(.array .byte)], none⟩ := by decide +kernel
theorem pd_azJ : parseMethodDescriptor "()J" = some ⟨[], some .long⟩ := by decide +kernel
theorem ef_rm0 (m : MethodId) (x0 : Int64) (x1 : Int64) (x2 : Int32) : entryFrame m #[(.long x0), (.long x1), (.int x2)] maxLocals = mkF m 0 #[.val (.long x0), .second, .val (.long x1), .second, .val (.int x2), .unset, .unset, .unset, .unset, .unset, .unset, .unset, .unset, .unset, .unset, .unset, .unset] [] := by first | (simp [entryFrame, mkF, argsToLocals, Value.category, maxLocals]; done) | rfl
theorem pn_com_example_validated_xml_store_validatedxmlstore_ReaderSignedPinLaw : plainName "com/example/validated_xml_store/validatedxmlstore/ReaderSignedPinLaw" = true := by first | (simp [plainName, overriddenIn]; done) | decide +kernel
set_option maxRecDepth 65536 in
set_option maxHeartbeats 40000000 in
theorem rm0 (l : Launch) (Z : State) (a0 : Array Value) (hw : ∀ d ∈ tables_1, d.before a0 Z = true) (ws : List Jvm.Cond) (q1 q2 : Int64) (p1 : Int32) (h0 : Heap) (n0 : Nat) (Z0 : n0 ≤ h0.size)  :
    MetFree l x (head1 (Jvm.Cond.code x code maxLocals ret :: ws) room_1) (fun a U => a = #[(.long q1), (.long q2), (.int p1)] ∧ Z.Warmed39 U.vm ∧ U.heap = h0) (fun _ _ _ _ _ => True) (fun _ U o U' => ∃ v L, o = .returned v ∧ (fun v h L => v = some (.int 1) ∧ Fr n0 L) v U'.heap L ∧ FrameEnd U o U' L room_1.cells room_1.slots) := by
  refine meet (y := x) (Q := fun v h L => v = some (.int 1) ∧ Fr n0 L) (plainFor_of_name pn_com_example_validated_xml_store_validatedxmlstore_ReaderSignedPinLaw) (fun m => ef_rm0 m q1 q2 p1) ?_
  intro p e s m below meth c T0 hx hby hml hZ hown hnm hret hlk X0 e0
  have N0 := Fr.nil n0
  have hml : c.maxLocals = 17 := hml
  refine g_lloadN X0 hx hby at_0 (pc' := 1) rfl rfl ?_
  refine g_iload X0 hx hby at_1 (pc' := 3) rfl rfl ?_
  refine g_bipush X0 hx hby at_3 (pc' := 5) rfl (z := (63 : Int32)) rfl ?_
  refine g_iand X0 hx hby at_5 (pc' := 6) rfl rfl ?_
  refine g_lshr X0 hx hby at_6 (pc' := 7) rfl rfl ?_
  show Go p.tables e below s _ _ _ (T0.setTop (mkF m 7 #[.val (.long q1), .second, .val (.long q2), .second, .val (.int p1), .unset, .unset, .unset, .unset, .unset, .unset, .unset, .unset, .unset, .unset, .unset, .unset] [(.long (q2 >>> ((p1 &&& (63 : Int32)) &&& 0x3f).toInt64))]))
  generalize hv1 : (q2 >>> ((p1 &&& (63 : Int32)) &&& 0x3f).toInt64) = v1
  refine g_lstore X0 hx hby at_7 (pc' := 9) rfl (L' := #[.val (.long q1), .second, .val (.long q2), .second, .val (.int p1), .val (.long v1), .second, .unset, .unset, .unset, .unset, .unset, .unset, .unset, .unset, .unset, .unset]) rfl ?_
  refine g_new X0 hx hby hZ hown (wi hw 0 rfl) (wi hw 1 rfl) (wi hw 2 rfl) e0 at_9 (pc' := 12) rfl (by decide) (by decide) ?_
  intro T2 h2 b2 X2 e2 E2 hb2 A2 D2
  have g3 : n0 ≤ b2 := by rw [hb2]; exact Z0
  have F4 : Fld Z h2 b2 "com/example/validated_xml_store/validatedxmlstore/PackedBytes$Writer" "bytes" "[B" .null := D2 (Or.inl (wi hw 11 rfl)) (ty := (.array .byte)) (by decide)
  have F5 : Fld Z h2 b2 "com/example/validated_xml_store/validatedxmlstore/PackedBytes$Writer" "length" "I" (.int (0 : Int32)) := D2 (Or.inl (wi hw 22 rfl)) (ty := .int) (by decide)
  refine g_dup X2 hx hby at_12 (pc' := 13) rfl rfl ?_
  refine Go.callI X2 hx hZ (y := (⟨"com/example/validated_xml_store/validatedxmlstore/PackedBytes$Writer", "<init>", "()V"⟩ : MethodName)) hown rfl (wi hw 3 rfl) (wi hw 4 rfl) (wi hw 2 rfl) (wi hw 5 rfl) (by decide) e2 (a := b2) (argsL := []) (rest := [(.ref b2)]) (W := 1) (rm_winit l Z a0 hw b2 h2 n0 (Nat.le_trans Z0 E2.1) A2 F4 F5 g3) (hb hby at_13) (by rw [hml]; rfl) rfl pd_azV rfl rfl (by decide) (by decide) (by decide) (by decide) ?_
  intro v6 T6 L6 X6 hQ6
  obtain ⟨h6, e6⟩ : ∃ z, T6.heap = z := ⟨_, rfl⟩
  rw [e6] at hQ6
  obtain ⟨b1_6, rfl, Nq6, Kq6, gqb1_6, sqb1_6, Fq0_6, Fq1_6, Fq2_6⟩ := hQ6
  have N6 := Fr.app N0 Nq6
  show Go p.tables e below s _ _ _ (T6.setTop (mkF m 16 #[.val (.long q1), .second, .val (.long q2), .second, .val (.int p1), .val (.long v1), .second, .unset, .unset, .unset, .unset, .unset, .unset, .unset, .unset, .unset, .unset] [(.ref b2)]))
  refine g_astore X6 hx hby at_16 (pc' := 18) rfl rfl (L' := #[.val (.long q1), .second, .val (.long q2), .second, .val (.int p1), .val (.long v1), .second, .val (.ref b2), .unset, .unset, .unset, .unset, .unset, .unset, .unset, .unset, .unset]) rfl ?_
  refine g_aload X6 hx hby at_18 (pc' := 20) rfl rfl rfl ?_
  refine g_lloadN X6 hx hby at_20 (pc' := 21) rfl rfl ?_
  have f8 := A2.keep Kq6
  have ne9 : b2 ≠ b1_6 := Nat.ne_of_lt (Nat.lt_of_lt_of_le F5.lt sqb1_6)
  refine Go.callV X6 hx hZ (y := (⟨"com/example/validated_xml_store/validatedxmlstore/PackedBytes$Writer", "putSigned", "(J)V"⟩ : MethodName)) (z := (⟨"com/example/validated_xml_store/validatedxmlstore/PackedBytes$Writer", "putSigned", "(J)V"⟩ : MethodName)) hown (wi hw 12 rfl) (wi hw 13 rfl) (notFace_of_selects (args := #[]) (mvT hZ (wi hw 15 rfl))) (wi hw 15 rfl) (wi hw 14 rfl) (wi hw 2 rfl) (wi hw 16 rfl) (by decide) e6 (a := b2) (argsL := [(.long q1)]) (rest := []) (W := 0) f8 (rm_put l Z a0 hw b2 q1 b1_6 (0 : Int32) (fun _ => (0 : Int32)) 0 h6 n0 (Nat.le_trans (Nat.le_trans Z0 E2.1) Kq6.1) f8 Fq0_6 Fq1_6 Fq2_6 (Ne.symm ne9) g3 gqb1_6 rfl (by omega)) (hb hby at_21) (by rw [hml]; rfl) rfl pd_aJzV rfl rfl (by decide) (by decide) (by decide) (by decide) ?_
  intro v7 T7 L7 X7 hQ7
  obtain ⟨h7, e7⟩ : ∃ z, T7.heap = z := ⟨_, rfl⟩
  rw [e7] at hQ7
  obtain ⟨Lw_7, t9_7, rfl, Nq7, Kq7, Fq0_7, Fq1_7, Fq2_7, hL_7, hLe_7, hLa_7, hLt_7⟩ := hQ7
  have N7 := Fr.app N6 Nq7
  show Go p.tables e below s _ _ _ (T7.setTop (mkF m 24 #[.val (.long q1), .second, .val (.long q2), .second, .val (.int p1), .val (.long v1), .second, .val (.ref b2), .unset, .unset, .unset, .unset, .unset, .unset, .unset, .unset, .unset] []))
  refine g_aload X7 hx hby at_24 (pc' := 26) rfl rfl rfl ?_
  have f11 := f8.keep Kq7
  refine Go.callV X7 hx hZ (y := (⟨"com/example/validated_xml_store/validatedxmlstore/PackedBytes$Writer", "length", "()I"⟩ : MethodName)) (z := (⟨"com/example/validated_xml_store/validatedxmlstore/PackedBytes$Writer", "length", "()I"⟩ : MethodName)) hown (wi hw 24 rfl) (wi hw 25 rfl) (notFace_of_selects (args := #[]) (mvT hZ (wi hw 27 rfl))) (wi hw 27 rfl) (wi hw 26 rfl) (wi hw 2 rfl) (wi hw 28 rfl) (by decide) e7 (a := b2) (argsL := []) (rest := []) (W := 0) f11 (rm_wlen l Z a0 hw b2 t9_7 h7 n0 (Nat.le_trans (Nat.le_trans (Nat.le_trans Z0 E2.1) Kq6.1) Kq7.1) Fq1_7) (hb hby at_26) (by rw [hml]; rfl) rfl pd_azI rfl rfl (by decide) (by decide) (by decide) (by decide) ?_
  intro v10 T10 L10 X10 hQ10
  obtain ⟨rfl, Nq10, hh10⟩ := hQ10
  have N10 := Fr.app N7 Nq10
  show Go p.tables e below s _ _ _ (T10.setTop (mkF m 29 #[.val (.long q1), .second, .val (.long q2), .second, .val (.int p1), .val (.long v1), .second, .val (.ref b2), .unset, .unset, .unset, .unset, .unset, .unset, .unset, .unset, .unset] [(.int t9_7)]))
  refine g_istore X10 hx hby at_29 (pc' := 31) rfl (L' := #[.val (.long q1), .second, .val (.long q2), .second, .val (.int p1), .val (.long v1), .second, .val (.ref b2), .val (.int t9_7), .unset, .unset, .unset, .unset, .unset, .unset, .unset, .unset]) rfl ?_
  refine g_aload X10 hx hby at_31 (pc' := 33) rfl rfl rfl ?_
  refine g_lload X10 hx hby at_33 (pc' := 35) rfl rfl ?_
  refine Go.callV X10 hx hZ (y := (⟨"com/example/validated_xml_store/validatedxmlstore/PackedBytes$Writer", "putSigned", "(J)V"⟩ : MethodName)) (z := (⟨"com/example/validated_xml_store/validatedxmlstore/PackedBytes$Writer", "putSigned", "(J)V"⟩ : MethodName)) hown (wi hw 12 rfl) (wi hw 13 rfl) (notFace_of_selects (args := #[]) (mvT hZ (wi hw 15 rfl))) (wi hw 15 rfl) (wi hw 14 rfl) (wi hw 2 rfl) (wi hw 16 rfl) (by decide) hh10 (a := b2) (argsL := [(.long v1)]) (rest := []) (W := 0) f11 (rm_put l Z a0 hw b2 v1 b1_6 t9_7 (own_w (fun _ => (0 : Int32)) 0 (own_U (own_zz q1)) Lw_7) Lw_7 h7 n0 (Nat.le_trans (Nat.le_trans (Nat.le_trans Z0 E2.1) Kq6.1) Kq7.1) f11 Fq0_7 Fq1_7 Fq2_7 (Ne.symm ne9) g3 gqb1_6 (by rw [hLt_7]; simp) (by omega)) (hb hby at_35) (by rw [hml]; rfl) rfl pd_aJzV rfl rfl (by decide) (by decide) (by decide) (by decide) ?_
  intro v12 T12 L12 X12 hQ12
  obtain ⟨h12, e12⟩ : ∃ z, T12.heap = z := ⟨_, rfl⟩
  rw [e12] at hQ12
  obtain ⟨Lw_12, t9_12, rfl, Nq12, Kq12, Fq0_12, Fq1_12, Fq2_12, hL_12, hLe_12, hLa_12, hLt_12⟩ := hQ12
  have N12 := Fr.app N10 Nq12
  show Go p.tables e below s _ _ _ (T12.setTop (mkF m 38 #[.val (.long q1), .second, .val (.long q2), .second, .val (.int p1), .val (.long v1), .second, .val (.ref b2), .val (.int t9_7), .unset, .unset, .unset, .unset, .unset, .unset, .unset, .unset] []))
  refine g_aload X12 hx hby at_38 (pc' := 40) rfl rfl rfl ?_
  have f14 := f11.keep Kq12
  refine Go.callV X12 hx hZ (y := (⟨"com/example/validated_xml_store/validatedxmlstore/PackedBytes$Writer", "length", "()I"⟩ : MethodName)) (z := (⟨"com/example/validated_xml_store/validatedxmlstore/PackedBytes$Writer", "length", "()I"⟩ : MethodName)) hown (wi hw 24 rfl) (wi hw 25 rfl) (notFace_of_selects (args := #[]) (mvT hZ (wi hw 27 rfl))) (wi hw 27 rfl) (wi hw 26 rfl) (wi hw 2 rfl) (wi hw 28 rfl) (by decide) e12 (a := b2) (argsL := []) (rest := []) (W := 0) f14 (rm_wlen l Z a0 hw b2 t9_12 h12 n0 (Nat.le_trans (Nat.le_trans (Nat.le_trans (Nat.le_trans Z0 E2.1) Kq6.1) Kq7.1) Kq12.1) Fq1_12) (hb hby at_40) (by rw [hml]; rfl) rfl pd_azI rfl rfl (by decide) (by decide) (by decide) (by decide) ?_
  intro v13 T13 L13 X13 hQ13
  obtain ⟨rfl, Nq13, hh13⟩ := hQ13
  have N13 := Fr.app N12 Nq13
  show Go p.tables e below s _ _ _ (T13.setTop (mkF m 43 #[.val (.long q1), .second, .val (.long q2), .second, .val (.int p1), .val (.long v1), .second, .val (.ref b2), .val (.int t9_7), .unset, .unset, .unset, .unset, .unset, .unset, .unset, .unset] [(.int t9_12)]))
  refine g_istore X13 hx hby at_43 (pc' := 45) rfl (L' := #[.val (.long q1), .second, .val (.long q2), .second, .val (.int p1), .val (.long v1), .second, .val (.ref b2), .val (.int t9_7), .val (.int t9_12), .unset, .unset, .unset, .unset, .unset, .unset, .unset]) rfl ?_
  refine g_new X13 hx hby hZ hown (wi hw 29 rfl) (wi hw 30 rfl) (wi hw 31 rfl) hh13 at_45 (pc' := 48) rfl (by decide) (by decide) ?_
  intro T15 h15 b15 X15 e15 E15 hb15 A15 D15
  have g16 : n0 ≤ b15 := by rw [hb15]; exact (Nat.le_trans (Nat.le_trans (Nat.le_trans (Nat.le_trans Z0 E2.1) Kq6.1) Kq7.1) Kq12.1)
  have F17 : Fld Z h15 b15 "com/example/validated_xml_store/validatedxmlstore/PackedBytes$Reader" "bytes" "[B" .null := D15 (Or.inr (wi hw 54 rfl)) (ty := (.array .byte)) (by decide)
  have F18 : Fld Z h15 b15 "com/example/validated_xml_store/validatedxmlstore/PackedBytes$Reader" "at" "I" (.int (0 : Int32)) := D15 (Or.inl (wi hw 61 rfl)) (ty := .int) (by decide)
  refine g_dup X15 hx hby at_48 (pc' := 49) rfl rfl ?_
  refine g_aload X15 hx hby at_49 (pc' := 51) rfl rfl rfl ?_
  have f19 := Fq1_12.ext E15
  have f21 := Fq0_12.ext E15
  have f22 := Fq2_12.ext E15
  have f23 := f14.ext E15
  refine Go.callV X15 hx hZ (y := (⟨"com/example/validated_xml_store/validatedxmlstore/PackedBytes$Writer", "bytes", "()[B"⟩ : MethodName)) (z := (⟨"com/example/validated_xml_store/validatedxmlstore/PackedBytes$Writer", "bytes", "()[B"⟩ : MethodName)) hown (wi hw 32 rfl) (wi hw 33 rfl) (notFace_of_selects (args := #[]) (mvT hZ (wi hw 35 rfl))) (wi hw 35 rfl) (wi hw 34 rfl) (wi hw 2 rfl) (wi hw 36 rfl) (by decide) e15 (a := b2) (argsL := []) (rest := [(.ref b15), (.ref b15)]) (W := 2) f23 (rm_bytes l Z a0 hw b2 b1_6 t9_12 (own_w (own_w (fun _ => (0 : Int32)) 0 (own_U (own_zz q1)) Lw_7) Lw_7 (own_U (own_zz v1)) Lw_12) (Lw_7 + Lw_12) h15 n0 (Nat.le_trans (Nat.le_trans (Nat.le_trans (Nat.le_trans (Nat.le_trans Z0 E2.1) Kq6.1) Kq7.1) Kq12.1) E15.1) f21 f19 f22 (by rw [hLt_12]) (by omega)) (hb hby at_51) (by rw [hml]; rfl) rfl pd_azyB rfl rfl (by decide) (by decide) (by decide) (by decide) ?_
  intro v20 T20 L20 X20 hQ20
  obtain ⟨h20, e20⟩ : ∃ z, T20.heap = z := ⟨_, rfl⟩
  rw [e20] at hQ20
  obtain ⟨b1_20, rfl, Nq20, Kq20, gqb1_20, sqb1_20, Fq0_20⟩ := hQ20
  have N20 := Fr.app N13 Nq20
  show Go p.tables e below s _ _ _ (T20.setTop (mkF m 54 #[.val (.long q1), .second, .val (.long q2), .second, .val (.int p1), .val (.long v1), .second, .val (.ref b2), .val (.int t9_7), .val (.int t9_12), .unset, .unset, .unset, .unset, .unset, .unset, .unset] [(.ref b1_20), (.ref b15), (.ref b15)]))
  have f25 := A15.keep Kq20
  have f26 := F17.keep Kq20 nin0
  have f27 := F18.keep Kq20 nin0
  refine Go.callI X20 hx hZ (y := (⟨"com/example/validated_xml_store/validatedxmlstore/PackedBytes$Reader", "<init>", "([B)V"⟩ : MethodName)) hown rfl (wi hw 49 rfl) (wi hw 50 rfl) (wi hw 31 rfl) (wi hw 51 rfl) (by decide) e20 (a := b15) (argsL := [(.ref b1_20)]) (rest := [(.ref b15)]) (W := 1) (rm_rinit l Z a0 hw b15 b1_20 (0 : Int32) h20 n0 (Nat.le_trans (Nat.le_trans (Nat.le_trans (Nat.le_trans (Nat.le_trans (Nat.le_trans Z0 E2.1) Kq6.1) Kq7.1) Kq12.1) E15.1) Kq20.1) f25 f26 f27 g16) (hb hby at_54) (by rw [hml]; rfl) rfl pd_ayBzV rfl rfl (by decide) (by decide) (by decide) (by decide) ?_
  intro v24 T24 L24 X24 hQ24
  obtain ⟨h24, e24⟩ : ∃ z, T24.heap = z := ⟨_, rfl⟩
  rw [e24] at hQ24
  obtain ⟨rfl, Nq24, Kq24, Fq0_24, Fq1_24⟩ := hQ24
  have N24 := Fr.app N20 Nq24
  have z28 : n0 ≤ h24.size := (Nat.le_trans (Nat.le_trans (Nat.le_trans (Nat.le_trans (Nat.le_trans (Nat.le_trans (Nat.le_trans Z0 E2.1) Kq6.1) Kq7.1) Kq12.1) E15.1) Kq20.1) Kq24.1)
  show Go p.tables e below s _ _ _ (T24.setTop (mkF m 57 #[.val (.long q1), .second, .val (.long q2), .second, .val (.int p1), .val (.long v1), .second, .val (.ref b2), .val (.int t9_7), .val (.int t9_12), .unset, .unset, .unset, .unset, .unset, .unset, .unset] [(.ref b15)]))
  refine g_astore X24 hx hby at_57 (pc' := 59) rfl rfl (L' := #[.val (.long q1), .second, .val (.long q2), .second, .val (.int p1), .val (.long v1), .second, .val (.ref b2), .val (.int t9_7), .val (.int t9_12), .val (.ref b15), .unset, .unset, .unset, .unset, .unset, .unset]) rfl ?_
  refine g_aload X24 hx hby at_59 (pc' := 61) rfl rfl rfl ?_
  have f30 := f25.keep Kq24
  have ne31 : b15 ≠ b1_20 := Nat.ne_of_lt (Nat.lt_of_lt_of_le F18.lt sqb1_20)
  have f32 := (Fq0_20.keep Kq24 (ninS (Ne.symm ne31) nin0))
  refine Go.callV X24 hx hZ (y := (⟨"com/example/validated_xml_store/validatedxmlstore/PackedBytes$Reader", "signed", "()J"⟩ : MethodName)) (z := (⟨"com/example/validated_xml_store/validatedxmlstore/PackedBytes$Reader", "signed", "()J"⟩ : MethodName)) hown (wi hw 55 rfl) (wi hw 56 rfl) (notFace_of_selects (args := #[]) (mvT hZ (wi hw 58 rfl))) (wi hw 58 rfl) (wi hw 57 rfl) (wi hw 31 rfl) (wi hw 59 rfl) (by decide) e24 (a := b15) (argsL := []) (rest := []) (W := 0) f30 (rm_signed l Z a0 hw b15 b1_20 (0 : Int32) (Lw_7 + Lw_12) (own_w (own_w (fun _ => (0 : Int32)) 0 (own_U (own_zz q1)) Lw_7) Lw_7 (own_U (own_zz v1)) Lw_12) 0 (own_U (own_zz q1)) Lw_7 h24 n0 z28 f30 Fq0_24 Fq1_24 f32 (Ne.symm ne31) g16 rfl (own_U_lt _) hL_7 hLe_7 hLa_7 (by omega) (fun i hi => by unfold own_w; rw [if_neg (by omega), if_pos (by omega)]; simp)) (hb hby at_61) (by rw [hml]; rfl) rfl pd_azJ rfl rfl (by decide) (by decide) (by decide) (by decide) ?_
  intro v29 T29 L29 X29 hQ29
  obtain ⟨h29, e29⟩ : ∃ z, T29.heap = z := ⟨_, rfl⟩
  rw [e29] at hQ29
  obtain ⟨t9_29, rfl, Nq29, Kq29, Fq0_29, Fq1_29, hRt_29⟩ := hQ29
  have N29 := Fr.app N24 Nq29
  show Go p.tables e below s _ _ _ (T29.setTop (mkF m 64 #[.val (.long q1), .second, .val (.long q2), .second, .val (.int p1), .val (.long v1), .second, .val (.ref b2), .val (.int t9_7), .val (.int t9_12), .val (.ref b15), .unset, .unset, .unset, .unset, .unset, .unset] [(.long (own_sg (own_U (own_zz q1))))]))
  rw [own_back]
  show Go p.tables e below s _ _ _ (T29.setTop (mkF m 64 #[.val (.long q1), .second, .val (.long q2), .second, .val (.int p1), .val (.long v1), .second, .val (.ref b2), .val (.int t9_7), .val (.int t9_12), .val (.ref b15), .unset, .unset, .unset, .unset, .unset, .unset] [(.long q1)]))
  refine g_lstore X29 hx hby at_64 (pc' := 66) rfl (L' := #[.val (.long q1), .second, .val (.long q2), .second, .val (.int p1), .val (.long v1), .second, .val (.ref b2), .val (.int t9_7), .val (.int t9_12), .val (.ref b15), .val (.long q1), .second, .unset, .unset, .unset, .unset]) rfl ?_
  refine g_aload X29 hx hby at_66 (pc' := 68) rfl rfl rfl ?_
  have f34 := f30.keep Kq29
  refine Go.callV X29 hx hZ (y := (⟨"com/example/validated_xml_store/validatedxmlstore/PackedBytes$Reader", "at", "()I"⟩ : MethodName)) (z := (⟨"com/example/validated_xml_store/validatedxmlstore/PackedBytes$Reader", "at", "()I"⟩ : MethodName)) hown (wi hw 62 rfl) (wi hw 63 rfl) (notFace_of_selects (args := #[]) (mvT hZ (wi hw 65 rfl))) (wi hw 65 rfl) (wi hw 64 rfl) (wi hw 31 rfl) (wi hw 66 rfl) (by decide) e29 (a := b15) (argsL := []) (rest := []) (W := 0) f34 (rm_at l Z a0 hw b15 t9_29 h29 n0 (Nat.le_trans z28 Kq29.1) Fq1_29) (hb hby at_68) (by rw [hml]; rfl) rfl pd_azI rfl rfl (by decide) (by decide) (by decide) (by decide) ?_
  intro v33 T33 L33 X33 hQ33
  obtain ⟨rfl, Nq33, hh33⟩ := hQ33
  have N33 := Fr.app N29 Nq33
  show Go p.tables e below s _ _ _ (T33.setTop (mkF m 71 #[.val (.long q1), .second, .val (.long q2), .second, .val (.int p1), .val (.long v1), .second, .val (.ref b2), .val (.int t9_7), .val (.int t9_12), .val (.ref b15), .val (.long q1), .second, .unset, .unset, .unset, .unset] [(.int t9_29)]))
  refine g_istore X33 hx hby at_71 (pc' := 73) rfl (L' := #[.val (.long q1), .second, .val (.long q2), .second, .val (.int p1), .val (.long v1), .second, .val (.ref b2), .val (.int t9_7), .val (.int t9_12), .val (.ref b15), .val (.long q1), .second, .val (.int t9_29), .unset, .unset, .unset]) rfl ?_
  refine g_aload X33 hx hby at_73 (pc' := 75) rfl rfl rfl ?_
  have f36 := (f32.keep Kq29 (ninS (Ne.symm ne31) nin0))
  refine Go.callV X33 hx hZ (y := (⟨"com/example/validated_xml_store/validatedxmlstore/PackedBytes$Reader", "signed", "()J"⟩ : MethodName)) (z := (⟨"com/example/validated_xml_store/validatedxmlstore/PackedBytes$Reader", "signed", "()J"⟩ : MethodName)) hown (wi hw 55 rfl) (wi hw 56 rfl) (notFace_of_selects (args := #[]) (mvT hZ (wi hw 58 rfl))) (wi hw 58 rfl) (wi hw 57 rfl) (wi hw 31 rfl) (wi hw 59 rfl) (by decide) hh33 (a := b15) (argsL := []) (rest := []) (W := 0) f34 (rm_signed l Z a0 hw b15 b1_20 t9_29 (Lw_7 + Lw_12) (own_w (own_w (fun _ => (0 : Int32)) 0 (own_U (own_zz q1)) Lw_7) Lw_7 (own_U (own_zz v1)) Lw_12) Lw_7 (own_U (own_zz v1)) Lw_12 h29 n0 (Nat.le_trans z28 Kq29.1) f34 Fq0_29 Fq1_29 f36 (Ne.symm ne31) g16 (by rw [hRt_29]; simp) (own_U_lt _) hL_12 hLe_12 hLa_12 (by omega) (fun i hi => by unfold own_w; rw [if_pos (by omega), Nat.add_sub_cancel_left])) (hb hby at_75) (by rw [hml]; rfl) rfl pd_azJ rfl rfl (by decide) (by decide) (by decide) (by decide) ?_
  intro v35 T35 L35 X35 hQ35
  obtain ⟨h35, e35⟩ : ∃ z, T35.heap = z := ⟨_, rfl⟩
  rw [e35] at hQ35
  obtain ⟨t9_35, rfl, Nq35, Kq35, Fq0_35, Fq1_35, hRt_35⟩ := hQ35
  have N35 := Fr.app N33 Nq35
  show Go p.tables e below s _ _ _ (T35.setTop (mkF m 78 #[.val (.long q1), .second, .val (.long q2), .second, .val (.int p1), .val (.long v1), .second, .val (.ref b2), .val (.int t9_7), .val (.int t9_12), .val (.ref b15), .val (.long q1), .second, .val (.int t9_29), .unset, .unset, .unset] [(.long (own_sg (own_U (own_zz v1))))]))
  rw [own_back]
  show Go p.tables e below s _ _ _ (T35.setTop (mkF m 78 #[.val (.long q1), .second, .val (.long q2), .second, .val (.int p1), .val (.long v1), .second, .val (.ref b2), .val (.int t9_7), .val (.int t9_12), .val (.ref b15), .val (.long q1), .second, .val (.int t9_29), .unset, .unset, .unset] [(.long v1)]))
  refine g_lstore X35 hx hby at_78 (pc' := 80) rfl (L' := #[.val (.long q1), .second, .val (.long q2), .second, .val (.int p1), .val (.long v1), .second, .val (.ref b2), .val (.int t9_7), .val (.int t9_12), .val (.ref b15), .val (.long q1), .second, .val (.int t9_29), .val (.long v1), .second, .unset]) rfl ?_
  refine g_aload X35 hx hby at_80 (pc' := 82) rfl rfl rfl ?_
  have f38 := f34.keep Kq35
  refine Go.callV X35 hx hZ (y := (⟨"com/example/validated_xml_store/validatedxmlstore/PackedBytes$Reader", "at", "()I"⟩ : MethodName)) (z := (⟨"com/example/validated_xml_store/validatedxmlstore/PackedBytes$Reader", "at", "()I"⟩ : MethodName)) hown (wi hw 62 rfl) (wi hw 63 rfl) (notFace_of_selects (args := #[]) (mvT hZ (wi hw 65 rfl))) (wi hw 65 rfl) (wi hw 64 rfl) (wi hw 31 rfl) (wi hw 66 rfl) (by decide) e35 (a := b15) (argsL := []) (rest := []) (W := 0) f38 (rm_at l Z a0 hw b15 t9_35 h35 n0 (Nat.le_trans (Nat.le_trans z28 Kq29.1) Kq35.1) Fq1_35) (hb hby at_82) (by rw [hml]; rfl) rfl pd_azI rfl rfl (by decide) (by decide) (by decide) (by decide) ?_
  intro v37 T37 L37 X37 hQ37
  obtain ⟨rfl, Nq37, hh37⟩ := hQ37
  have N37 := Fr.app N35 Nq37
  show Go p.tables e below s _ _ _ (T37.setTop (mkF m 85 #[.val (.long q1), .second, .val (.long q2), .second, .val (.int p1), .val (.long v1), .second, .val (.ref b2), .val (.int t9_7), .val (.int t9_12), .val (.ref b15), .val (.long q1), .second, .val (.int t9_29), .val (.long v1), .second, .unset] [(.int t9_35)]))
  refine g_istore X37 hx hby at_85 (pc' := 87) rfl (L' := #[.val (.long q1), .second, .val (.long q2), .second, .val (.int p1), .val (.long v1), .second, .val (.ref b2), .val (.int t9_7), .val (.int t9_12), .val (.ref b15), .val (.long q1), .second, .val (.int t9_29), .val (.long v1), .second, .val (.int t9_35)]) rfl ?_
  refine g_lload X37 hx hby at_87 (pc' := 89) rfl rfl ?_
  refine g_lloadN X37 hx hby at_89 (pc' := 90) rfl rfl ?_
  refine g_lcmp X37 hx hby at_90 (pc' := 91) rfl  ?_
  have hc91 : q1.toInt = q1.toInt := rfl
  refine g_ifNo X37 hx hby at_91 (pc' := 94) (teq (show (lcmpW q1 q1) = (0 : Int32) from (lw_eq q1 q1).mpr (Int64.toInt_inj.mp hc91))).2 rfl ?_
  refine g_iload X37 hx hby at_94 (pc' := 96) rfl rfl ?_
  refine g_iload X37 hx hby at_96 (pc' := 98) rfl rfl ?_
  have hc98 : t9_29.toInt = t9_7.toInt := by rw [hRt_29, hLt_7]
  refine g_icmpNo X37 hx hby at_98 (pc' := 101) (teq (show t9_29 = t9_7 from Int32.toInt_inj.mp hc98)).2 rfl ?_
  refine g_lload X37 hx hby at_101 (pc' := 103) rfl rfl ?_
  refine g_lload X37 hx hby at_103 (pc' := 105) rfl rfl ?_
  refine g_lcmp X37 hx hby at_105 (pc' := 106) rfl  ?_
  have hc106 : v1.toInt = v1.toInt := rfl
  refine g_ifNo X37 hx hby at_106 (pc' := 109) (teq (show (lcmpW v1 v1) = (0 : Int32) from (lw_eq v1 v1).mpr (Int64.toInt_inj.mp hc106))).2 rfl ?_
  refine g_iload X37 hx hby at_109 (pc' := 111) rfl rfl ?_
  refine g_iload X37 hx hby at_111 (pc' := 113) rfl rfl ?_
  have hc113 : t9_35.toInt = t9_12.toInt := by rw [hRt_35, hLt_12]
  refine g_icmpNo X37 hx hby at_113 (pc' := 116) (teq (show t9_35 = t9_12 from Int32.toInt_inj.mp hc113)).2 rfl ?_
  refine g_iconst X37 hx hby at_116 (pc' := 117) rfl (z := (1 : Int32)) rfl ?_
  refine g_goto X37 hx hby at_117 (pc' := 121) (by decide) (by decide) ?_
  refine Go.retZ X37 hx hlk hret (by simp) (hb hby at_121) (by decide) (by decide) ?_
  exact ⟨rfl, N37⟩
set_option maxRecDepth 65536 in
set_option maxHeartbeats 40000000 in
theorem comes_1 {Post : Tables → Env → Array Value → State → Outcome → State → Prop} (hpost : ∀ tb e args s v u, (limb_1_1.after args s (.returned v) u = true ∧ limb_1_2.after args s (.returned v) u = true) → FrameEnd s (.returned v) u (Jvm.fieldLocs frame_1_writes args s ++ Jvm.arrayLocs frame_1_arrays args s ++ Jvm.staticLocs frame_1_statics s) 16 2176 → Post tb e args s (.returned v) u) :
    ArmFor flags0 classFile x code maxLocals ret World_1 tables_1 room_1 Calls_1 rest_1 Pre_1 Post := by
  intro l hfl _ _ p e ha hc hk s m args below hf hA hF happ hP
  obtain ⟨hcalls, hrest, hpre⟩ := hP
  obtain ⟨-, -, -, hnamed, -, -, -, hat⟩ := (Spec.applies_iff hf).mp happ
  obtain ⟨hg, hn⟩ := and_e (Cond.before_iff.mp (show (Jvm.Cond.and given_1 narrow_1).before args s = true from hpre))
  obtain ⟨g0, r0⟩ := and_e hg
  obtain ⟨g1, r1⟩ := and_e r0
  obtain ⟨g2, g3⟩ := and_e r1
  obtain ⟨w0, w1, w2, rfl⟩ : ∃ w0 w1 w2 : Value, args = #[w0, w1, w2] := by
    have hs : args.size = 3 := by simpa [Cond.value, given_1] using g0
    obtain ⟨L⟩ := args
    match L, hs with
    | [w0, w1, w2], _ => exact ⟨w0, w1, w2, rfl⟩
  have hw := fun d (hd : d ∈ tables_1) => atoms_spec (ws := Jvm.Cond.code x code maxLocals ret :: tables_1) hat d (List.mem_cons_of_mem _ hd)
  have hfit : Fit s := fun {y c} hc i hi => by
    obtain ⟨ha, rfl⟩ := Array.getElem?_eq_some_iff.mp hc
    have q := List.all_eq_true.mp ((Array.all_eq_true_iff_forall_mem.mp hF) _ (Array.getElem_mem ha)) i (List.mem_range.mpr hi)
    simpa [Array.getElem?_eq_getElem hi] using q
  obtain ⟨i0, ei0⟩ := isL_v g1
  obtain rfl : w0 = (.long i0) := Option.some.inj ei0
  obtain ⟨i1, ei1⟩ := isL_v g2
  obtain rfl : w1 = (.long i1) := Option.some.inj ei1
  obtain ⟨i2, ei2⟩ := is_v g3
  obtain rfl : w2 = (.int i2) := Option.some.inj ei2
  obtain ⟨n, o, h1, h2, h3, _, L, rfl, ⟨rfl, N⟩, hq⟩ := rm0 l s _ hw tables_1 i0 i1 i2 s.heap s.heap.size (Nat.le_refl _)  p e ha hc hk s m _ below hf ((Spec.applies_iff_loose hf).mp happ).1 ⟨rfl, State.Warmed39.refl s, rfl⟩ trivial
  refine ⟨n, _, h1, h2, h3, hpost _ _ _ _ _ _ ⟨Cond.after_iff.mpr rfl, Cond.after_iff.mpr (eq_i res_at (Term.int_eval (1)) rfl)⟩ ⟨hq.1, hq.2.1, (hq.2.2.sift fun y hy => Or.inr (N y hy)).mono (by decide) (by decide)⟩⟩
theorem main_1_1 : Claimed_1_1 := comes_1 fun _ _ _ _ _ _ h hF => ⟨h.1, hF⟩
theorem main_1_2 : Claimed_1_2 := comes_1 fun _ _ _ _ _ _ h hF => ⟨h.2, hF⟩
end Jvm.Pilot.@@N@@
namespace Jvm.Pilot.@@N@@
open Jvm Jvm.ClassFile Sem Op Lib Jvm.Free Jvm.Stand Jvm.Pilot.@@N@@.Jvm.D
/-! MADE BY PROGRAM (witnessworld.py) out of the Statement's table words and the real class files: 13 classes; the members and pool entries that the words name. The judged class is class 1, her method 1. -/
namespace start1
open Jvm.ClassFile
def u (s : String) : CpInfo := .utf8 (stringToUtf16 s)
/-- a pool by its gaps: so many unusable entries, then the entry; so many at the end -/
def gap : Nat → List CpInfo → List CpInfo
  | 0, r => r
  | n + 1, r => .unusable :: gap n r
def poolList (es : List (Nat × CpInfo)) (last : Nat) : List CpInfo := es.foldr (fun e r => gap e.1 (e.2 :: r)) (gap last [])
def pool (es : List (Nat × CpInfo)) (last : Nat) : Array CpInfo := ⟨poolList es last⟩
def fileOf (pool : Array CpInfo) (this : Nat) (attrs : Array Attribute := #[]) (ms : Array MethodInfo := #[]) (fl : Nat := 33) (sup : Nat := 0) (ifs : Array Nat := #[]) (fds : Array FieldInfo := #[]) : ClassFile where
  minorVersion := 0
  majorVersion := 65
  constantPool := pool
  accessFlags := fl
  thisClass := this
  superClass := sup
  interfaces := ifs
  fields := fds
  methods := ms
  attributes := attrs
def plain (name : String) (sup : Option ClassId) : Class where
  name := name
  kind := .ordinary
  loader := none
  accessFlags := 33
  super := sup
  interfaces := #[]
  cf := none
  fields := #[]
  methods := #[]
  instanceTypes := #[]
  staticTypes := #[]
  resolved := #[]
  callSites := []
  init := .initialized
  statics := none
  mirror := none

def pool0 : Array CpInfo := pool [(5, u "<init>"), (0, u "()V"), (1, .class_ 10), (1, u "java/lang/Object")] 113

def k0c0 : Code := { maxStack := 0, maxLocals := 1, code := object_method_1_code, exceptionTable := #[], attributes := #[] }
def k0m0 : Method := { name := "<init>", desc := "()V", sig := { parameters := [], returnType := none }, accessFlags := 1, code := some k0c0 }
/-- java/lang/Object -/
def k0 : Class := { plain "java/lang/Object" none with
  accessFlags := 33
  interfaces := #[]
  cf := some (fileOf pool0 8 #[] #[{ accessFlags := 1, nameIndex := 5, descriptorIndex := 6, attributes := #[] }] 33 0 #[] #[])
  fields := #[]
  methods := #[k0m0]
  instanceTypes := #[]
  staticTypes := #[]
  resolved := Array.replicate 124 none
  statics := none }

def pool1 : Array CpInfo := pool [(2, .class_ 4), (0, .nameAndType 5 6), (0, u "java/lang/Object"), (0, u "<init>"), (0, u "()V"), (0, .class_ 8), (0, u "com/example/validated_xml_store/validatedxmlstore/PackedBytes$Writer"), (0, .methodref 7 3), (0, .methodref 7 11), (0, .nameAndType 12 13), (0, u "putSigned"), (0, u "(J)V"), (0, .methodref 7 15), (0, .nameAndType 16 17), (0, u "length"), (0, u "()I"), (0, .class_ 19), (0, u "com/example/validated_xml_store/validatedxmlstore/PackedBytes$Reader"), (0, .methodref 7 21), (0, .nameAndType 22 23), (0, u "bytes"), (0, u "()[B"), (0, .methodref 18 25), (0, .nameAndType 5 26), (0, u "([B)V"), (0, .methodref 18 28), (0, .nameAndType 29 30), (0, u "signed"), (0, u "()J"), (0, .methodref 18 32), (0, .nameAndType 33 17), (0, u "at"), (0, .class_ 35), (0, u "com/example/validated_xml_store/validatedxmlstore/ReaderSignedPinLaw"), (2, u "law"), (0, u "(JJI)Z")] 8

def k1m0 : Method := { name := "<init>", desc := "()V", sig := { parameters := [], returnType := none }, accessFlags := 1, code := none }
def k1c1 : Code := { maxStack := 4, maxLocals := 17, code := code, exceptionTable := #[], attributes := #[] }
def k1m1 : Method := { name := "law", desc := "(JJI)Z", sig := { parameters := [.long, .long, .int], returnType := some .boolean }, accessFlags := 9, code := some k1c1 }
/-- com/example/validated_xml_store/validatedxmlstore/ReaderSignedPinLaw -/
def k1 : Class := { plain "com/example/validated_xml_store/validatedxmlstore/ReaderSignedPinLaw" (some 0) with
  accessFlags := 49
  interfaces := #[]
  cf := some (fileOf pool1 34 #[] #[{ accessFlags := 1, nameIndex := 5, descriptorIndex := 6, attributes := #[] }, { accessFlags := 9, nameIndex := 38, descriptorIndex := 39, attributes := #[] }] 49 2 #[] #[])
  fields := #[]
  methods := #[k1m0, k1m1]
  instanceTypes := #[]
  staticTypes := #[]
  resolved := Array.replicate 48 none
  statics := none }

def pool2 : Array CpInfo := pool [(1, .methodref 2 3), (0, .class_ 4), (0, .nameAndType 5 6), (0, u "java/lang/Object"), (0, u "<init>"), (0, u "()V"), (0, .fieldref 8 9), (0, .class_ 10), (0, .nameAndType 11 12), (0, u "com/example/validated_xml_store/validatedxmlstore/PackedBytes$Writer"), (0, u "bytes"), (0, u "[B"), (0, .fieldref 8 14), (0, .nameAndType 15 16), (0, u "length"), (0, u "I"), (0, .methodref 8 18), (0, .nameAndType 19 20), (0, u "room"), (0, u "(I)V"), (12, .long 18446744073709551488), (1, .long 127), (1, .long 128), (15, u "putSigned"), (0, u "(J)V"), (0, .methodref 56 57), (0, .class_ 58), (0, .nameAndType 59 60), (0, u "java/util/Arrays"), (0, u "copyOf"), (0, u "([BI)[B"), (8, u "()I"), (5, u "()[B"), (3, .class_ 80), (0, u "com/example/validated_xml_store/validatedxmlstore/PackedBytes")] 2

def k2c0 : Code := { maxStack := 2, maxLocals := 1, code := prog_67_method_1_code, exceptionTable := #[], attributes := #[] }
def k2m0 : Method := { name := "<init>", desc := "()V", sig := { parameters := [], returnType := none }, accessFlags := 0, code := some k2c0 }
def k2c1 : Code := { maxStack := 1, maxLocals := 1, code := prog_67_method_2_code, exceptionTable := #[], attributes := #[] }
def k2m1 : Method := { name := "length", desc := "()I", sig := { parameters := [], returnType := some .int }, accessFlags := 0, code := some k2c1 }
def k2c2 : Code := { maxStack := 6, maxLocals := 5, code := prog_67_method_7_code, exceptionTable := #[], attributes := #[] }
def k2m2 : Method := { name := "putSigned", desc := "(J)V", sig := { parameters := [.long], returnType := none }, accessFlags := 0, code := some k2c2 }
def k2c3 : Code := { maxStack := 2, maxLocals := 1, code := prog_67_method_9_code, exceptionTable := #[], attributes := #[] }
def k2m3 : Method := { name := "bytes", desc := "()[B", sig := { parameters := [], returnType := some (.array .byte) }, accessFlags := 0, code := some k2c3 }
def k2c4 : Code := { maxStack := 5, maxLocals := 2, code := prog_67_method_10_code, exceptionTable := #[], attributes := #[] }
def k2m4 : Method := { name := "room", desc := "(I)V", sig := { parameters := [.int], returnType := none }, accessFlags := 2, code := some k2c4 }
/-- com/example/validated_xml_store/validatedxmlstore/PackedBytes$Writer -/
def k2 : Class := { plain "com/example/validated_xml_store/validatedxmlstore/PackedBytes$Writer" (some 0) with
  accessFlags := 32
  interfaces := #[]
  cf := some (fileOf pool2 8 #[.nestHost 79] #[{ accessFlags := 0, nameIndex := 5, descriptorIndex := 6, attributes := #[] }, { accessFlags := 0, nameIndex := 15, descriptorIndex := 69, attributes := #[] }, { accessFlags := 0, nameIndex := 53, descriptorIndex := 54, attributes := #[] }, { accessFlags := 0, nameIndex := 11, descriptorIndex := 75, attributes := #[] }, { accessFlags := 2, nameIndex := 19, descriptorIndex := 20, attributes := #[] }] 32 2 #[] #[{ accessFlags := 2, nameIndex := 11, descriptorIndex := 12, attributes := #[] }, { accessFlags := 2, nameIndex := 15, descriptorIndex := 16, attributes := #[] }])
  fields := #[{ name := "bytes", type := (.array .byte), accessFlags := 2, slot := 0, constantValue := 0 }, { name := "length", type := .int, accessFlags := 2, slot := 1, constantValue := 0 }]
  methods := #[k2m0, k2m1, k2m2, k2m3, k2m4]
  instanceTypes := #[(.array .byte), .int]
  staticTypes := #[]
  resolved := Array.replicate 83 none
  statics := none }

def pool3 : Array CpInfo := pool [(1, .methodref 2 3), (0, .class_ 4), (0, .nameAndType 5 6), (0, u "java/lang/Object"), (0, u "<init>"), (0, u "()V"), (0, .fieldref 8 9), (0, .class_ 10), (0, .nameAndType 11 12), (0, u "com/example/validated_xml_store/validatedxmlstore/PackedBytes$Reader"), (0, u "bytes"), (0, u "[B"), (0, .fieldref 8 14), (0, .nameAndType 15 16), (0, u "at"), (0, u "I"), (2, u "signed"), (0, u "()J"), (11, u "([B)V"), (2, u "()I"), (15, .class_ 52), (0, u "com/example/validated_xml_store/validatedxmlstore/PackedBytes")] 2

def k3c0 : Code := { maxStack := 2, maxLocals := 2, code := prog_66_method_1_code, exceptionTable := #[], attributes := #[] }
def k3m0 : Method := { name := "<init>", desc := "([B)V", sig := { parameters := [(.array .byte)], returnType := none }, accessFlags := 0, code := some k3c0 }
def k3c1 : Code := { maxStack := 1, maxLocals := 1, code := prog_66_method_2_code, exceptionTable := #[], attributes := #[] }
def k3m1 : Method := { name := "at", desc := "()I", sig := { parameters := [], returnType := some .int }, accessFlags := 0, code := some k3c1 }
def k3c2 : Code := { maxStack := 6, maxLocals := 5, code := prog_66_method_7_code, exceptionTable := #[], attributes := #[] }
def k3m2 : Method := { name := "signed", desc := "()J", sig := { parameters := [], returnType := some .long }, accessFlags := 0, code := some k3c2 }
/-- com/example/validated_xml_store/validatedxmlstore/PackedBytes$Reader -/
def k3 : Class := { plain "com/example/validated_xml_store/validatedxmlstore/PackedBytes$Reader" (some 0) with
  accessFlags := 32
  interfaces := #[]
  cf := some (fileOf pool3 8 #[.nestHost 51] #[{ accessFlags := 0, nameIndex := 5, descriptorIndex := 32, attributes := #[] }, { accessFlags := 0, nameIndex := 15, descriptorIndex := 35, attributes := #[] }, { accessFlags := 0, nameIndex := 19, descriptorIndex := 20, attributes := #[] }] 32 2 #[] #[{ accessFlags := 18, nameIndex := 11, descriptorIndex := 12, attributes := #[] }, { accessFlags := 2, nameIndex := 15, descriptorIndex := 16, attributes := #[] }])
  fields := #[{ name := "bytes", type := (.array .byte), accessFlags := 18, slot := 0, constantValue := 0 }, { name := "at", type := .int, accessFlags := 2, slot := 1, constantValue := 0 }]
  methods := #[k3m0, k3m1, k3m2]
  instanceTypes := #[(.array .byte), .int]
  staticTypes := #[]
  resolved := Array.replicate 55 none
  statics := none }

def pool4 : Array CpInfo := pool [(2, .class_ 4), (1, u "java/lang/Object"), (0, u "<init>"), (0, u "()V"), (7, .class_ 16), (1, u "java/util/Arrays"), (57, .class_ 76), (1, u "java/util/Arrays$NaturalOrder"), (36, .class_ 115), (1, u "java/util/Arrays$LegacyMergeSort"), (1, u "Z"), (32, .methodref 151 152), (0, .class_ 153), (0, .nameAndType 154 155), (0, u "java/lang/System"), (0, u "arraycopy"), (0, u "(Ljava/lang/Object;ILjava/lang/Object;II)V"), (146, u "copyOf"), (1, .methodref 305 306), (0, .class_ 307), (0, .nameAndType 308 309), (0, u "java/lang/Math"), (0, u "min"), (0, u "(II)I"), (65, .class_ 376), (0, u "java/util/Arrays$ArrayList"), (68, u "$assertionsDisabled"), (269, u "MIN_ARRAY_SORT_GRAN"), (0, u "I"), (2, u "INSERTIONSORT_THRESHOLD"), (149, u "([BI)[B"), (105, .class_ 976), (0, u "java/util/Arrays$ArrayItr")] 52

def k4m0 : Method := { name := "<init>", desc := "()V", sig := { parameters := [], returnType := none }, accessFlags := 2, code := none }
def k4c1 : Code := { maxStack := 6, maxLocals := 3, code := jdk_65_method_121_code, exceptionTable := #[], attributes := #[] }
def k4m1 : Method := { name := "copyOf", desc := "([BI)[B", sig := { parameters := [(.array .byte), .int], returnType := some (.array .byte) }, accessFlags := 9, code := some k4c1 }
/-- java/util/Arrays -/
def k4 : Class := { plain "java/util/Arrays" (some 0) with
  accessFlags := 49
  interfaces := #[]
  cf := some (fileOf pool4 14 #[.nestMembers #[975, 375, 113, 74]] #[{ accessFlags := 2, nameIndex := 5, descriptorIndex := 6, attributes := #[] }, { accessFlags := 9, nameIndex := 302, descriptorIndex := 869, attributes := #[] }] 49 2 #[] #[{ accessFlags := 26, nameIndex := 715, descriptorIndex := 716, attributes := #[] }, { accessFlags := 26, nameIndex := 719, descriptorIndex := 716, attributes := #[] }, { accessFlags := 4120, nameIndex := 445, descriptorIndex := 117, attributes := #[] }])
  fields := #[{ name := "MIN_ARRAY_SORT_GRAN", type := .int, accessFlags := 26, slot := 0, constantValue := 0 }, { name := "INSERTIONSORT_THRESHOLD", type := .int, accessFlags := 26, slot := 1, constantValue := 0 }, { name := "$assertionsDisabled", type := .boolean, accessFlags := 4120, slot := 2, constantValue := 0 }]
  methods := #[k4m0, k4m1]
  instanceTypes := #[]
  staticTypes := #[.int, .int, .boolean]
  resolved := Array.replicate 1029 none
  statics := none }

def pool5 : Array CpInfo := pool [(1, .class_ 2), (0, u "java/lang/Math"), (1, .class_ 6), (1, u "java/lang/Object"), (0, u "<init>"), (0, u "()V"), (89, .class_ 100), (1, u "java/lang/Math$RandomNumberGeneratorHolder"), (71, u "negativeZeroFloatBits"), (0, u "J"), (2, u "negativeZeroDoubleBits"), (24, u "min"), (43, u "$assertionsDisabled"), (0, u "Z"), (88, u "(II)I"), (2, u "twoToTheDoubleScaleDown"), (0, u "D"), (4, u "twoToTheDoubleScaleUp"), (9, u "E"), (3, u "PI"), (2, u "TAU"), (2, u "DEGREES_TO_RADIANS"), (0, u "RADIANS_TO_DEGREES")] 94

def k5m0 : Method := { name := "<init>", desc := "()V", sig := { parameters := [], returnType := none }, accessFlags := 2, code := none }
def k5c1 : Code := { maxStack := 2, maxLocals := 2, code := jdk_29_method_69_code, exceptionTable := #[], attributes := #[] }
def k5m1 : Method := { name := "min", desc := "(II)I", sig := { parameters := [.int, .int], returnType := some .int }, accessFlags := 9, code := some k5c1 }
/-- java/lang/Math -/
def k5 : Class := { plain "java/lang/Math" (some 0) with
  accessFlags := 49
  interfaces := #[]
  cf := some (fileOf pool5 1 #[.nestMembers #[98]] #[{ accessFlags := 2, nameIndex := 7, descriptorIndex := 8, attributes := #[] }, { accessFlags := 9, nameIndex := 201, descriptorIndex := 335, attributes := #[] }] 49 4 #[] #[{ accessFlags := 25, nameIndex := 354, descriptorIndex := 339, attributes := #[] }, { accessFlags := 25, nameIndex := 358, descriptorIndex := 339, attributes := #[] }, { accessFlags := 25, nameIndex := 361, descriptorIndex := 339, attributes := #[] }, { accessFlags := 26, nameIndex := 364, descriptorIndex := 339, attributes := #[] }, { accessFlags := 26, nameIndex := 365, descriptorIndex := 339, attributes := #[] }, { accessFlags := 26, nameIndex := 172, descriptorIndex := 173, attributes := #[] }, { accessFlags := 26, nameIndex := 176, descriptorIndex := 173, attributes := #[] }, { accessFlags := 8, nameIndex := 344, descriptorIndex := 339, attributes := #[] }, { accessFlags := 8, nameIndex := 338, descriptorIndex := 339, attributes := #[] }, { accessFlags := 4120, nameIndex := 245, descriptorIndex := 246, attributes := #[] }])
  fields := #[{ name := "E", type := .double, accessFlags := 25, slot := 0, constantValue := 0 }, { name := "PI", type := .double, accessFlags := 25, slot := 1, constantValue := 0 }, { name := "TAU", type := .double, accessFlags := 25, slot := 2, constantValue := 0 }, { name := "DEGREES_TO_RADIANS", type := .double, accessFlags := 26, slot := 3, constantValue := 0 }, { name := "RADIANS_TO_DEGREES", type := .double, accessFlags := 26, slot := 4, constantValue := 0 }, { name := "negativeZeroFloatBits", type := .long, accessFlags := 26, slot := 5, constantValue := 0 }, { name := "negativeZeroDoubleBits", type := .long, accessFlags := 26, slot := 6, constantValue := 0 }, { name := "twoToTheDoubleScaleUp", type := .double, accessFlags := 8, slot := 7, constantValue := 0 }, { name := "twoToTheDoubleScaleDown", type := .double, accessFlags := 8, slot := 8, constantValue := 0 }, { name := "$assertionsDisabled", type := .boolean, accessFlags := 4120, slot := 9, constantValue := 0 }]
  methods := #[k5m0, k5m1]
  instanceTypes := #[]
  staticTypes := #[.double, .double, .double, .double, .double, .long, .long, .double, .double, .boolean]
  resolved := Array.replicate 460 none
  statics := none }

def pool6 : Array CpInfo := pool [(2, .class_ 4), (1, u "java/lang/Object"), (0, u "<init>"), (0, u "()V"), (1, .class_ 10), (1, u "java/lang/System"), (0, u "allowSecurityManager"), (0, u "I"), (16, u "cons"), (0, u "Ljava/io/Console;"), (77, .class_ 110), (1, u "java/lang/System$CallersHolder"), (43, u "initialErrStream"), (0, u "Ljava/io/PrintStream;"), (19, u "security"), (0, u "Ljava/lang/SecurityManager;"), (31, .class_ 209), (0, u "java/lang/System$1"), (7, u "props"), (0, u "Ljava/util/Properties;"), (2, u "lineSeparator"), (0, u "Ljava/lang/String;"), (96, .class_ 321), (1, u "java/lang/System$LoggerFinder"), (5, .class_ 328), (0, u "java/lang/System$Logger"), (67, u "err"), (2, u "out"), (91, u "notSupportedJnuEncoding"), (15, u "in"), (17, u "initialIn"), (0, u "Ljava/io/InputStream;"), (35, u "bootLayer"), (0, u "Ljava/lang/ModuleLayer;"), (99, .class_ 664), (0, u "java/lang/System$2"), (9, u "NEVER"), (2, u "MAYBE"), (49, u "arraycopy"), (0, u "(Ljava/lang/Object;ILjava/lang/Object;II)V"), (72, .class_ 802), (0, u "java/lang/System$Logger$Level")] 31

def k6m0 : Method := { name := "<init>", desc := "()V", sig := { parameters := [], returnType := none }, accessFlags := 2, code := none }
def k6m1 : Method := { name := "arraycopy", desc := "(Ljava/lang/Object;ILjava/lang/Object;II)V", sig := { parameters := [(.object "java/lang/Object"), .int, (.object "java/lang/Object"), .int, .int], returnType := none }, accessFlags := 265, code := none }
/-- java/lang/System -/
def k6 : Class := { plain "java/lang/System" (some 0) with
  accessFlags := 49
  interfaces := #[]
  cf := some (fileOf pool6 8 #[.nestMembers #[319, 327, 801, 108, 663, 208]] #[{ accessFlags := 2, nameIndex := 5, descriptorIndex := 6, attributes := #[] }, { accessFlags := 265, nameIndex := 727, descriptorIndex := 728, attributes := #[] }] 49 2 #[] #[{ accessFlags := 25, nameIndex := 507, descriptorIndex := 526, attributes := #[] }, { accessFlags := 25, nameIndex := 399, descriptorIndex := 155, attributes := #[] }, { accessFlags := 25, nameIndex := 396, descriptorIndex := 155, attributes := #[] }, { accessFlags := 10, nameIndex := 525, descriptorIndex := 526, attributes := #[] }, { accessFlags := 26, nameIndex := 674, descriptorIndex := 12, attributes := #[] }, { accessFlags := 26, nameIndex := 677, descriptorIndex := 12, attributes := #[] }, { accessFlags := 10, nameIndex := 11, descriptorIndex := 12, attributes := #[] }, { accessFlags := 74, nameIndex := 175, descriptorIndex := 176, attributes := #[] }, { accessFlags := 10, nameIndex := 491, descriptorIndex := 222, attributes := #[] }, { accessFlags := 74, nameIndex := 29, descriptorIndex := 30, attributes := #[] }, { accessFlags := 74, nameIndex := 154, descriptorIndex := 155, attributes := #[] }, { accessFlags := 10, nameIndex := 217, descriptorIndex := 218, attributes := #[] }, { accessFlags := 10, nameIndex := 221, descriptorIndex := 222, attributes := #[] }, { accessFlags := 8, nameIndex := 562, descriptorIndex := 563, attributes := #[] }])
  fields := #[{ name := "in", type := (.object "java/io/InputStream"), accessFlags := 25, slot := 0, constantValue := 0 }, { name := "out", type := (.object "java/io/PrintStream"), accessFlags := 25, slot := 1, constantValue := 0 }, { name := "err", type := (.object "java/io/PrintStream"), accessFlags := 25, slot := 2, constantValue := 0 }, { name := "initialIn", type := (.object "java/io/InputStream"), accessFlags := 10, slot := 3, constantValue := 0 }, { name := "NEVER", type := .int, accessFlags := 26, slot := 4, constantValue := 0 }, { name := "MAYBE", type := .int, accessFlags := 26, slot := 5, constantValue := 0 }, { name := "allowSecurityManager", type := .int, accessFlags := 10, slot := 6, constantValue := 0 }, { name := "security", type := (.object "java/lang/SecurityManager"), accessFlags := 74, slot := 7, constantValue := 0 }, { name := "notSupportedJnuEncoding", type := (.object "java/lang/String"), accessFlags := 10, slot := 8, constantValue := 0 }, { name := "cons", type := (.object "java/io/Console"), accessFlags := 74, slot := 9, constantValue := 0 }, { name := "initialErrStream", type := (.object "java/io/PrintStream"), accessFlags := 74, slot := 10, constantValue := 0 }, { name := "props", type := (.object "java/util/Properties"), accessFlags := 10, slot := 11, constantValue := 0 }, { name := "lineSeparator", type := (.object "java/lang/String"), accessFlags := 10, slot := 12, constantValue := 0 }, { name := "bootLayer", type := (.object "java/lang/ModuleLayer"), accessFlags := 8, slot := 13, constantValue := 0 }]
  methods := #[k6m0, k6m1]
  instanceTypes := #[]
  staticTypes := #[(.object "java/io/InputStream"), (.object "java/io/PrintStream"), (.object "java/io/PrintStream"), (.object "java/io/InputStream"), .int, .int, .int, (.object "java/lang/SecurityManager"), (.object "java/lang/String"), (.object "java/io/Console"), (.object "java/io/PrintStream"), (.object "java/util/Properties"), (.object "java/lang/String"), (.object "java/lang/ModuleLayer")]
  resolved := Array.replicate 834 none
  statics := none }

def pool7 : Array CpInfo := pool [(1, u "java/lang/Cloneable"), (0, .class_ 1), (0, u "java/lang/Object"), (0, .class_ 3)] 3

/-- java/lang/Cloneable -/
def k7 : Class := { plain "java/lang/Cloneable" (some 0) with
  accessFlags := 1537
  interfaces := #[]
  cf := some (fileOf pool7 2 #[] #[] 1537 4 #[] #[])
  fields := #[]
  methods := #[]
  instanceTypes := #[]
  staticTypes := #[]
  resolved := Array.replicate 8 none
  statics := none }

def pool8 : Array CpInfo := pool [(1, u "java/io/Serializable"), (0, .class_ 1), (0, u "java/lang/Object"), (0, .class_ 3)] 3

/-- java/io/Serializable -/
def k8 : Class := { plain "java/io/Serializable" (some 0) with
  accessFlags := 1537
  interfaces := #[]
  cf := some (fileOf pool8 2 #[] #[] 1537 4 #[] #[])
  fields := #[]
  methods := #[]
  instanceTypes := #[]
  staticTypes := #[]
  resolved := Array.replicate 8 none
  statics := none }

/-- the primitive byte -/
def k9 : Class := { plain "byte" none with kind := .primitive 'B', accessFlags := 0x411 }
/-- [B -/
def k10 : Class := { plain "[B" (some 0) with kind := .array 9 .byte, interfaces := #[7, 8], accessFlags := 1041 }

/-- the primitive int -/
def k11 : Class := { plain "int" none with kind := .primitive 'I', accessFlags := 0x411 }
/-- [I -/
def k12 : Class := { plain "[I" (some 0) with kind := .array 11 .int, interfaces := #[7, 8], accessFlags := 1041 }

def heap : Heap := #[]
def classes : Array Class := #[k0, k1, k2, k3, k4, k5, k6, k7, k8, k9, k10, k11, k12]
def interned : List (Array UInt16 × Addr) := []
def slotsUsed : Nat := 0
def theMethod : MethodId := ⟨1, 1⟩
def args0 : Array Value := #[.long 5, .long 7, .int 9]
def aboutOver (below : List Frame) : State where
  vm := { classes := classes, interned := interned.toArray }
  heap := heap
  slotsUsed := slotsUsed
  threads := #[{ frames := .invoking theMethod args0 :: below }]
def below0 : List Frame := [.native { method := ⟨0, 0⟩, args := #[] }]
def about1 : State := aboutOver below0
def p0 : Program := .bare "" "" ""
def e0 : Env := launch0.env 0 0 0
theorem w_frames : about1.frames = Frame.invoking theMethod args0 :: below0 := rfl
set_option maxRecDepth 65536 in
theorem w_args : argsFit about1.vm theMethod args0 = true := by decide +kernel
set_option maxRecDepth 65536 in
theorem w_heap : heapFits about1 = true := by decide +kernel
set_option maxRecDepth 65536 in
theorem w_runnable : about1.curStatus? = some .runnable := by decide +kernel
set_option maxRecDepth 65536 in
theorem w_alone : about1.alone = true := by decide +kernel
set_option maxRecDepth 65536 in
theorem w_named : about1.methodNamed? x = some theMethod := by decide +kernel
set_option maxRecDepth 65536 in
theorem w_hears : about1.hears theMethod below0 = true := by decide +kernel
set_option maxRecDepth 65536 in
theorem w_ripe : about1.ripe theMethod args0 below0 = true := by decide +kernel
theorem w_running : about1.status = .running := rfl
set_option maxRecDepth 65536 in
theorem w_room : about1.hasRoom e0.platform room_1 = true :=
  launch0.hasRoom_least _ room_1 (by decide +kernel) (by decide +kernel) (by decide +kernel) (by decide +kernel) (by decide +kernel) (by decide +kernel)
theorem allAtoms_all (ts : List Jvm.Cond) (a : Array Jvm.Value) (st : Jvm.State) : (allAtoms ts).before a st = ts.all (fun c => c.before a st) := by
  induction ts with
  | nil => rfl
  | cons c t ih =>
    show (Jvm.Cond.and c (allAtoms t)).before a st = _
    rw [Jvm.Cond.before_and, ih, List.all_cons]
def words1 : List Jvm.Cond := Jvm.Cond.code x code maxLocals ret :: tables_1
/-- a 'code' word, met by the world's own term for the bytes: nothing is compared byte by byte -/
theorem code_word {y : MethodName} {bytes : ByteArray} {mx : Nat} {rt : Option FieldType} {a : Array Value} {s : State} {m : MethodId} {meth : Method} {c : Code} (h1 : s.methodNamed? y = some m) (h2 : s.vm.method? m = some meth) (h3 : meth.code = some c) (h4 : c.code = bytes)
    (h5 : (c.maxLocals == mx && c.exceptionTable.isEmpty && decide (c.maxStack ≤ mostOperands) && decide (meth.sig.returnType = rt) && !meth.locks && decide (parseMethodDescriptor y.desc = some meth.sig)) = true) : (Jvm.Cond.code y bytes mx rt).before a s = true := by
  simp only [Bool.and_eq_true, beq_iff_eq, Bool.not_eq_true', decide_eq_true_eq] at h5
  obtain ⟨⟨⟨⟨⟨g1, g2⟩, g3⟩, g4⟩, g5⟩, g6⟩ := h5
  simp [Cond.before, Cond.holds, Cond.value, h1, h2, h3, h4, g1, g2, g3, g4, g5, g6]
def isCode : Jvm.Cond → Bool
  | .code _ _ _ _ => true
  | _ => false
theorem all_split {L : List Jvm.Cond} {P : Jvm.Cond → Bool} (h1 : L.all (fun c => isCode c || P c) = true) (h2 : ∀ c ∈ L.filter isCode, P c = true) : L.all P = true := by
  refine List.all_eq_true.mpr fun c hc => ?_
  have h := List.all_eq_true.mp h1 c hc
  rcases Bool.eq_false_or_eq_true (isCode c) with hi | hi
  · exact h2 c (List.mem_filter.mpr ⟨hc, hi⟩)
  · simpa [hi] using h
set_option maxRecDepth 65536 in
theorem w_c0 : (Jvm.Cond.code x code maxLocals ret).before args0 about1 = true := code_word (m := ⟨1, 1⟩) (meth := k1m1) (c := k1c1) (by decide +kernel) rfl rfl rfl (by decide +kernel)
set_option maxRecDepth 65536 in
theorem w_c1 : (Jvm.Cond.code ({ cls := "com/example/validated_xml_store/validatedxmlstore/PackedBytes$Writer", name := "<init>", desc := "()V" } : Jvm.MethodName) prog_67_method_1_code (1 : Nat) (Option.none : Option Jvm.ClassFile.FieldType)).before args0 about1 = true := code_word (m := ⟨2, 0⟩) (meth := k2m0) (c := k2c0) (by decide +kernel) rfl rfl rfl (by decide +kernel)
set_option maxRecDepth 65536 in
theorem w_c2 : (Jvm.Cond.code ({ cls := "java/lang/Object", name := "<init>", desc := "()V" } : Jvm.MethodName) object_method_1_code (1 : Nat) (Option.none : Option Jvm.ClassFile.FieldType)).before args0 about1 = true := code_word (m := ⟨0, 0⟩) (meth := k0m0) (c := k0c0) (by decide +kernel) rfl rfl rfl (by decide +kernel)
set_option maxRecDepth 65536 in
theorem w_c3 : (Jvm.Cond.code ({ cls := "com/example/validated_xml_store/validatedxmlstore/PackedBytes$Writer", name := "putSigned", desc := "(J)V" } : Jvm.MethodName) prog_67_method_7_code (5 : Nat) (Option.none : Option Jvm.ClassFile.FieldType)).before args0 about1 = true := code_word (m := ⟨2, 2⟩) (meth := k2m2) (c := k2c2) (by decide +kernel) rfl rfl rfl (by decide +kernel)
set_option maxRecDepth 65536 in
theorem w_c4 : (Jvm.Cond.code ({ cls := "com/example/validated_xml_store/validatedxmlstore/PackedBytes$Writer", name := "room", desc := "(I)V" } : Jvm.MethodName) prog_67_method_10_code (2 : Nat) (Option.none : Option Jvm.ClassFile.FieldType)).before args0 about1 = true := code_word (m := ⟨2, 4⟩) (meth := k2m4) (c := k2c4) (by decide +kernel) rfl rfl rfl (by decide +kernel)
set_option maxRecDepth 65536 in
theorem w_c5 : (Jvm.Cond.code ({ cls := "com/example/validated_xml_store/validatedxmlstore/PackedBytes$Writer", name := "length", desc := "()I" } : Jvm.MethodName) prog_67_method_2_code (1 : Nat) (Option.some Jvm.ClassFile.FieldType.int)).before args0 about1 = true := code_word (m := ⟨2, 1⟩) (meth := k2m1) (c := k2c1) (by decide +kernel) rfl rfl rfl (by decide +kernel)
set_option maxRecDepth 65536 in
theorem w_c6 : (Jvm.Cond.code ({ cls := "com/example/validated_xml_store/validatedxmlstore/PackedBytes$Writer", name := "bytes", desc := "()[B" } : Jvm.MethodName) prog_67_method_9_code (1 : Nat) (Option.some (Jvm.ClassFile.FieldType.array Jvm.ClassFile.FieldType.byte))).before args0 about1 = true := code_word (m := ⟨2, 3⟩) (meth := k2m3) (c := k2c3) (by decide +kernel) rfl rfl rfl (by decide +kernel)
set_option maxRecDepth 65536 in
theorem w_c7 : (Jvm.Cond.code ({ cls := "java/util/Arrays", name := "copyOf", desc := "([BI)[B" } : Jvm.MethodName) jdk_65_method_121_code (3 : Nat) (Option.some (Jvm.ClassFile.FieldType.array Jvm.ClassFile.FieldType.byte))).before args0 about1 = true := code_word (m := ⟨4, 1⟩) (meth := k4m1) (c := k4c1) (by decide +kernel) rfl rfl rfl (by decide +kernel)
set_option maxRecDepth 65536 in
theorem w_c8 : (Jvm.Cond.code ({ cls := "java/lang/Math", name := "min", desc := "(II)I" } : Jvm.MethodName) jdk_29_method_69_code (2 : Nat) (Option.some Jvm.ClassFile.FieldType.int)).before args0 about1 = true := code_word (m := ⟨5, 1⟩) (meth := k5m1) (c := k5c1) (by decide +kernel) rfl rfl rfl (by decide +kernel)
set_option maxRecDepth 65536 in
theorem w_c9 : (Jvm.Cond.code ({ cls := "com/example/validated_xml_store/validatedxmlstore/PackedBytes$Reader", name := "<init>", desc := "([B)V" } : Jvm.MethodName) prog_66_method_1_code (2 : Nat) (Option.none : Option Jvm.ClassFile.FieldType)).before args0 about1 = true := code_word (m := ⟨3, 0⟩) (meth := k3m0) (c := k3c0) (by decide +kernel) rfl rfl rfl (by decide +kernel)
set_option maxRecDepth 65536 in
theorem w_c10 : (Jvm.Cond.code ({ cls := "com/example/validated_xml_store/validatedxmlstore/PackedBytes$Reader", name := "signed", desc := "()J" } : Jvm.MethodName) prog_66_method_7_code (5 : Nat) (Option.some Jvm.ClassFile.FieldType.long)).before args0 about1 = true := code_word (m := ⟨3, 2⟩) (meth := k3m2) (c := k3c2) (by decide +kernel) rfl rfl rfl (by decide +kernel)
set_option maxRecDepth 65536 in
theorem w_c11 : (Jvm.Cond.code ({ cls := "com/example/validated_xml_store/validatedxmlstore/PackedBytes$Reader", name := "at", desc := "()I" } : Jvm.MethodName) prog_66_method_2_code (1 : Nat) (Option.some Jvm.ClassFile.FieldType.int)).before args0 about1 = true := code_word (m := ⟨3, 1⟩) (meth := k3m1) (c := k3c1) (by decide +kernel) rfl rfl rfl (by decide +kernel)
def codes1 : List Jvm.Cond := [Jvm.Cond.code x code maxLocals ret, Jvm.Cond.code ({ cls := "com/example/validated_xml_store/validatedxmlstore/PackedBytes$Writer", name := "<init>", desc := "()V" } : Jvm.MethodName) prog_67_method_1_code (1 : Nat) (Option.none : Option Jvm.ClassFile.FieldType), Jvm.Cond.code ({ cls := "java/lang/Object", name := "<init>", desc := "()V" } : Jvm.MethodName) object_method_1_code (1 : Nat) (Option.none : Option Jvm.ClassFile.FieldType), Jvm.Cond.code ({ cls := "com/example/validated_xml_store/validatedxmlstore/PackedBytes$Writer", name := "putSigned", desc := "(J)V" } : Jvm.MethodName) prog_67_method_7_code (5 : Nat) (Option.none : Option Jvm.ClassFile.FieldType), Jvm.Cond.code ({ cls := "com/example/validated_xml_store/validatedxmlstore/PackedBytes$Writer", name := "room", desc := "(I)V" } : Jvm.MethodName) prog_67_method_10_code (2 : Nat) (Option.none : Option Jvm.ClassFile.FieldType), Jvm.Cond.code ({ cls := "com/example/validated_xml_store/validatedxmlstore/PackedBytes$Writer", name := "length", desc := "()I" } : Jvm.MethodName) prog_67_method_2_code (1 : Nat) (Option.some Jvm.ClassFile.FieldType.int), Jvm.Cond.code ({ cls := "com/example/validated_xml_store/validatedxmlstore/PackedBytes$Writer", name := "bytes", desc := "()[B" } : Jvm.MethodName) prog_67_method_9_code (1 : Nat) (Option.some (Jvm.ClassFile.FieldType.array Jvm.ClassFile.FieldType.byte)), Jvm.Cond.code ({ cls := "java/util/Arrays", name := "copyOf", desc := "([BI)[B" } : Jvm.MethodName) jdk_65_method_121_code (3 : Nat) (Option.some (Jvm.ClassFile.FieldType.array Jvm.ClassFile.FieldType.byte)), Jvm.Cond.code ({ cls := "java/lang/Math", name := "min", desc := "(II)I" } : Jvm.MethodName) jdk_29_method_69_code (2 : Nat) (Option.some Jvm.ClassFile.FieldType.int), Jvm.Cond.code ({ cls := "com/example/validated_xml_store/validatedxmlstore/PackedBytes$Reader", name := "<init>", desc := "([B)V" } : Jvm.MethodName) prog_66_method_1_code (2 : Nat) (Option.none : Option Jvm.ClassFile.FieldType), Jvm.Cond.code ({ cls := "com/example/validated_xml_store/validatedxmlstore/PackedBytes$Reader", name := "signed", desc := "()J" } : Jvm.MethodName) prog_66_method_7_code (5 : Nat) (Option.some Jvm.ClassFile.FieldType.long), Jvm.Cond.code ({ cls := "com/example/validated_xml_store/validatedxmlstore/PackedBytes$Reader", name := "at", desc := "()I" } : Jvm.MethodName) prog_66_method_2_code (1 : Nat) (Option.some Jvm.ClassFile.FieldType.int)]
set_option maxRecDepth 65536 in
theorem codes_eq : words1.filter isCode = codes1 := rfl
theorem w_codes : ∀ c ∈ words1.filter isCode, c.before args0 about1 = true := by
  rw [codes_eq]
  intro c hc
  simp only [codes1, List.mem_cons, List.not_mem_nil, or_false] at hc
  rcases hc with rfl | rfl | rfl | rfl | rfl | rfl | rfl | rfl | rfl | rfl | rfl | rfl
  · exact w_c0
  · exact w_c1
  · exact w_c2
  · exact w_c3
  · exact w_c4
  · exact w_c5
  · exact w_c6
  · exact w_c7
  · exact w_c8
  · exact w_c9
  · exact w_c10
  · exact w_c11
set_option maxRecDepth 65536 in
theorem w_t1 : (words1.take 24).all (fun c => isCode c || c.before args0 about1) = true := by decide +kernel
set_option maxRecDepth 65536 in
theorem w_t2 : ((words1.drop 24).take 24).all (fun c => isCode c || c.before args0 about1) = true := by decide +kernel
set_option maxRecDepth 65536 in
theorem w_t3 : ((words1.drop 24).drop 24).all (fun c => isCode c || c.before args0 about1) = true := by decide +kernel
theorem w_tables : (allAtoms (Jvm.Cond.code x code maxLocals ret :: tables_1)).before args0 about1 = true := by
  rw [allAtoms_all]
  show words1.all (fun c => c.before args0 about1) = true
  refine all_split ?_ w_codes
  rw [← List.take_append_drop 24 words1, List.all_append, w_t1, ← List.take_append_drop 24 (words1.drop 24), List.all_append, w_t2, w_t3]
  rfl
set_option maxRecDepth 65536 in
theorem w_case : (Jvm.Cond.and given_1 narrow_1).before args0 about1 = true := by decide +kernel
theorem w_applies : (headSpec (Jvm.Cond.code x code maxLocals ret :: tables_1) room_1).applies x e0.platform about1 = true :=
  (Spec.applies_iff w_frames).mpr ⟨w_running, w_runnable, w_alone, w_named, w_hears, w_ripe, w_room, w_tables⟩
theorem atStart : AtStart classFile x code maxLocals ret World_1 tables_1 room_1 Calls_1 rest_1 Pre_1 launch0 p0 e0 about1 theMethod args0 below0 :=
  ⟨lists_1, trivial, launch0.admits_env _ _ _, launch0.least_env, fairChoices_fair.cas, fairChoices_fair.clock, w_frames, w_args, w_heap, w_applies, trivial, trivial, w_case⟩
end start1
theorem witness_1 : WitnessClaimed_1 := ⟨start1.p0, start1.e0, start1.about1, start1.theMethod, start1.args0, start1.below0, start1.atStart⟩
end Jvm.Pilot.@@N@@
