import JvmDerived
import JvmDerived.Pilot.@@N@@Statement
import JvmDerived.Pilot.@@N@@Code
set_option linter.unusedVariables false
set_option linter.unusedSimpArgs false
namespace Jvm.OwnKit
open Sem ClassFile Op Lib Jvm.Stand Jvm.Free Jvm.LawKit Jvm.RoadKit
theorem irem_mod (x y : Int32) : x - x / y * y = x % y := by
  have hm : (x % y).toInt = x.toInt - x.toInt.tdiv y.toInt * y.toInt := by
    rw [Int32.toInt_mod, Int.tmod_def, Int.mul_comm]
  have hb := Int32.toInt_lt (x % y)
  have hl := Int32.le_toInt (x % y)
  have e : (x - x / y * y).toInt = (x % y).toInt.bmod (2 ^ 32) := by
    rw [hm, Int32.toInt_sub, Int32.toInt_mul, Int32.toInt_div, Int.sub_bmod_bmod, Int.sub_eq_add_neg, Int.sub_eq_add_neg]
    rw [← Int.add_bmod_bmod, ← Int.add_bmod_bmod (y := -(x.toInt.tdiv y.toInt * y.toInt))]
    congr 2
    rw [← Int.neg_mul, ← Int.neg_mul]
    rw [← Int.bmod_mul_bmod, Int.bmod_neg_bmod, Int.bmod_mul_bmod]
  apply Int32.toInt_inj.mp
  rw [e]
  exact Int.bmod_eq_of_le_mul_two (by omega) (by omega)
/-- what a body's end says -/
def Done (s : State) (below : List Frame) (Q : Option Value → Heap → List Loc → Prop) (C S : Nat) (t : State) (o : Outcome) : Prop :=
  t.status = .running ∧ Ended t below o ∧ ∃ v L, o = .returned v ∧ Q v t.heap L ∧ FrameEnd s o t L C S
/-- from here the run ends as asked -/
def Go (tb : Tables) (e : Env) (below : List Frame) (s : State) (Q : Option Value → Heap → List Loc → Prop) (C S : Nat) (A : State) : Prop :=
  ∃ t o, Steps tb e below A t ∧ Done s below Q C S t o
theorem Go.of {tb : Tables} {e : Env} {below : List Frame} {s : State} {Q : Option Value → Heap → List Loc → Prop} {C S : Nat} {A B : State}
    (g : ∀ t, Steps tb e below B t → Steps tb e below A t) (h : Go tb e below s Q C S B) : Go tb e below s Q C S A := by
  obtain ⟨t, o, h1, h2⟩ := h
  exact ⟨t, o, g t h1, h2⟩
theorem Go.join {tb : Tables} {e : Env} {below : List Frame} {s : State} {Q : Option Value → Heap → List Loc → Prop} {C S : Nat} {A : State} {α : Type} {P : α → Prop} {F : α → State}
    (h1 : ∀ x, P x → Go tb e below s Q C S (F x)) (h2 : (∀ x, P x → Go tb e below s Q C S (F x)) → Go tb e below s Q C S A) : Go tb e below s Q C S A := h2 h1
theorem Go.loop {tb : Tables} {e : Env} {below : List Frame} {s : State} {Q : Option Value → Heap → List Loc → Prop} {C S : Nat} {α : Type} {P : Nat → α → Prop} {F : α → State}
    (h : ∀ k x, P k x → (∀ j y, j < k → P j y → Go tb e below s Q C S (F y)) → Go tb e below s Q C S (F x)) : ∀ k x, P k x → Go tb e below s Q C S (F x) := by
  intro k
  induction k using Nat.strongRecOn with
  | ind k ih => exact fun x hp => h k x hp fun j y hj hy => ih j hj y hy
section Ret
variable {p : Program} {l : Launch} {e : Env} {R : Room} {s : State} {m : MethodId} {args : Array Value} {below : List Frame} {meth : Method} {c : Code} {T : State} {locs : List Loc} {cells slots : Nat} {Q : Option Value → Heap → List Loc → Prop} {C S : Nat}
theorem Go.retV (X : Stand p l e R s m args below meth c T locs cells slots) (hx : p.tables.exec = Jvm.exec) (hlk : meth.locks = false) {pc : Nat} {Ls : Array Slot} {st : List Value} (hret : meth.sig.returnType = none)
    (hd : decode c.code pc = .ok (.return_, 1)) (hs : st = []) (hc : cells ≤ C) (hn : slots ≤ S) (hq : Q none T.heap locs) : Go p.tables e below s Q C S (T.setTop (mkF m pc Ls st)) := by
  subst hs
  obtain ⟨fs, hr, hrun, hended, hW, hsame⟩ := X.leave (v := none) (fun _ => rfl)
  exact ⟨_, _, X.returnOut hx hret hd hr, hrun, hended, _, _, rfl, hq, ⟨_, rfl⟩, hW, hsame.mono hc hn⟩
theorem Go.retW (X : Stand p l e R s m args below meth c T locs cells slots) (hx : p.tables.exec = Jvm.exec) (hlk : meth.locks = false) {pc : Nat} {Ls : Array Slot} {w : Value} {t : FieldType} {i : Instr} {rest : List Value}
    (hret : meth.sig.returnType = some t) (hn : narrow t w = w)
    (hi : (i = .ireturn ∧ (t = .int ∨ t = .boolean ∨ t = .byte ∨ t = .char ∨ t = .short) ∧ ∃ z, w = .int z) ∨ (i = .lreturn ∧ t = .long ∧ ∃ z, w = .long z) ∨ (i = .dreturn ∧ t = .double ∧ ∃ z, w = .double z) ∨ (i = .freturn ∧ t = .float ∧ ∃ z, w = .float z) ∨ (i = .areturn ∧ t.isReference = true ∧ w.isRef = true))
    (hd : decode c.code pc = .ok (i, 1)) (hc : cells ≤ C) (hsl : slots ≤ S) (hq : Q (some w) T.heap locs) : Go p.tables e below s Q C S (T.setTop (mkF m pc Ls (w :: rest))) := by
  obtain ⟨fs, hr, hrun, hended, hW, hsame⟩ := X.leave (v := some w) (fun h => by rw [hret] at h; cases h)
  exact ⟨_, _, retOut X hx hret hn hi hd hr, hrun, hended, _, _, rfl, hq, ⟨_, rfl⟩, hW, hsame.mono hc hsl⟩
theorem Go.retI (X : Stand p l e R s m args below meth c T locs cells slots) (hx : p.tables.exec = Jvm.exec) (hlk : meth.locks = false) {pc : Nat} {Ls : Array Slot} {z : Int32} {rest : List Value}
    (hret : meth.sig.returnType = some .int) (hd : decode c.code pc = .ok (.ireturn, 1)) (hc : cells ≤ C) (hsl : slots ≤ S) (hq : Q (some (.int z)) T.heap locs) : Go p.tables e below s Q C S (T.setTop (mkF m pc Ls (.int z :: rest))) :=
  Go.retW X hx hlk hret rfl (Or.inl ⟨rfl, Or.inl rfl, _, rfl⟩) hd hc hsl hq
theorem Go.retZ (X : Stand p l e R s m args below meth c T locs cells slots) (hx : p.tables.exec = Jvm.exec) (hlk : meth.locks = false) {pc : Nat} {Ls : Array Slot} {z : Int32} {rest : List Value} {t : FieldType}
    (hret : meth.sig.returnType = some t) (ht : t = .boolean ∨ t = .byte ∨ t = .char ∨ t = .short) (hd : decode c.code pc = .ok (.ireturn, 1)) (hc : cells ≤ C) (hsl : slots ≤ S) (hq : Q (some (.int (nar t z))) T.heap locs) : Go p.tables e below s Q C S (T.setTop (mkF m pc Ls (.int z :: rest))) := by
  obtain ⟨fs, hr, hrun, hended, hW, hsame⟩ := X.leave (v := some (.int (nar t z))) (fun h => by rw [hret] at h; cases h)
  exact ⟨_, _, retN X hx hret ht hd hr, hrun, hended, _, _, rfl, hq, ⟨_, rfl⟩, hW, hsame.mono hc hsl⟩
theorem Go.retL (X : Stand p l e R s m args below meth c T locs cells slots) (hx : p.tables.exec = Jvm.exec) (hlk : meth.locks = false) {pc : Nat} {Ls : Array Slot} {z : Int64} {rest : List Value}
    (hret : meth.sig.returnType = some .long) (hd : decode c.code pc = .ok (.lreturn, 1)) (hc : cells ≤ C) (hsl : slots ≤ S) (hq : Q (some (.long z)) T.heap locs) : Go p.tables e below s Q C S (T.setTop (mkF m pc Ls (.long z :: rest))) :=
  Go.retW X hx hlk hret rfl (Or.inr (Or.inl ⟨rfl, rfl, _, rfl⟩)) hd hc hsl hq
theorem Go.retA (X : Stand p l e R s m args below meth c T locs cells slots) (hx : p.tables.exec = Jvm.exec) (hlk : meth.locks = false) {pc : Nat} {Ls : Array Slot} {w : Value} {rest : List Value} {t : FieldType}
    (hret : meth.sig.returnType = some t) (ht : t.isReference = true) (hw : w.isRef = true) (hd : decode c.code pc = .ok (.areturn, 1)) (hc : cells ≤ C) (hsl : slots ≤ S) (hq : Q (some w) T.heap locs) : Go p.tables e below s Q C S (T.setTop (mkF m pc Ls (w :: rest))) :=
  Go.retW X hx hlk hret (by cases t <;> first | rfl | (simp [FieldType.isReference] at ht)) (Or.inr (Or.inr (Or.inr (Or.inr ⟨rfl, ht, hw⟩)))) hd hc hsl hq
end Ret
/-- the contract of a body, by its walk -/
theorem meet {l : Launch} {Z : State} {y : MethodName} {bytes : ByteArray} {maxL : Nat} {ret : Option FieldType} {ws : List Cond} {rm : Room} {as : Array Value} {Ls : Array Slot} {h0 : Heap} {Q : Option Value → Heap → List Loc → Prop}
    (hpl : plainFor y = true) (ef : ∀ m, entryFrame m as maxL = mkF m 0 Ls [])
    (body : ∀ (p : Program) (e : Env) (s : State) (m : MethodId) (below : List Frame) (meth : Method) (c : Code) (T : State), p.tables.exec = Jvm.exec → c.code = bytes → c.maxLocals = maxL → Z.Warmed39 s.vm → s.vm.findClass y.cls = some m.cls → meth.name = y.name →
      meth.sig.returnType = ret → meth.locks = false → Stand p l e rm s m as below meth c T [] 0 0 → T.heap = h0 → Go p.tables e below s Q rm.cells rm.slots (T.setTop (mkF m 0 Ls []))) :
    MetFree l y (head1 (Cond.code y bytes maxL ret :: ws) rm) (fun a U => a = as ∧ Z.Warmed39 U.vm ∧ U.heap = h0) (fun _ _ _ _ _ => True) (fun _ U o U' => ∃ v L, o = .returned v ∧ Q v U'.heap L ∧ FrameEnd U o U' L rm.cells rm.slots) := by
  refine MetFree.of_bodySF hpl hisR ?_
  intro p e s m args below meth c s₁ Bd hml0 hP hK
  obtain ⟨rfl, hZ, hh⟩ := hP
  obtain ⟨t, o, h1, h2, h3, h4⟩ := body p e s m below meth c s₁ Bd.exec Bd.bytes hml0 hZ (findClass_of_methodNamed Bd.named) (name_of_methodNamed Bd.named Bd.method).1 Bd.returns Bd.notSynchronized (Stand.of_body Bd) (by rw [← hh, Bd.state]; rfl)
  exact ⟨t, o, castTop (ef m) h1, h2, h3, h4⟩
/-- what a callee's contract says -/
abbrev Con (l : Launch) (Z : State) (y : MethodName) (bytes : ByteArray) (maxL : Nat) (ret : Option FieldType) (rm : Room) (as : Array Value) (h0 : Heap) (Q : Option Value → Heap → List Loc → Prop) : Prop :=
  MetFree l y (head1 [Cond.code y bytes maxL ret] rm) (fun a U => a = as ∧ Z.Warmed39 U.vm ∧ U.heap = h0) (fun _ _ _ _ _ => True) (fun _ U o U' => ∃ v L, o = .returned v ∧ Q v U'.heap L ∧ FrameEnd U o U' L rm.cells rm.slots)
section Call
variable {p : Program} {l : Launch} {e : Env} {R : Room} {s : State} {m : MethodId} {args : Array Value} {below : List Frame} {meth : Method} {c : Code} {T : State} {locs : List Loc} {cells slots : Nat} {Q : Option Value → Heap → List Loc → Prop} {C S : Nat} {Z : State} {a0 : Array Value} {h : Heap}
theorem Go.callS (X : Stand p l e R s m args below meth c T locs cells slots) (hx : p.tables.exec = Jvm.exec) (hZ : Z.Warmed39 s.vm) {own : String} {index : Nat} {y : MethodName} {bytes : ByteArray} {maxL : Nat} {ret : Option FieldType} {rm : Room} {Q' : Option Value → Heap → List Loc → Prop}
    (hown : s.vm.findClass own = some m.cls) (w1 : (Cond.methodLink own index y).before a0 Z = true) (w2 : (Cond.static y).before a0 Z = true) (w3 : (Cond.initialized y.cls).before a0 Z = true)
    (w4 : (Cond.code y bytes maxL ret).before a0 Z = true) (hy : y.cls ≠ "java/lang/invoke/MethodHandle" ∧ y.cls ≠ "java/lang/invoke/VarHandle")
    (eT : T.heap = h) {pc : Nat} {Ls : Array Slot} {argsL rest st : List Value} {W : Nat} {ps : List FieldType} (hM : Con l Z y bytes maxL ret rm argsL.toArray h Q') (hd : decode c.code pc = .ok (.invokestatic index, 3))
    (hsz : Ls.size = c.maxLocals) (hst : st = argsL.reverse ++ rest) (hpd : parseMethodDescriptor y.desc = some ⟨ps, ret⟩) (hlen : argsL.length = ps.length) (hW : (rest.map fun v => v.category).sum = W)
    (hf : rm.frames + 1 ≤ R.frames) (hl : W + (maxL + 11) + rm.locals ≤ R.locals) (hc : cells + rm.cells ≤ R.cells) (hn : slots + rm.slots ≤ R.slots)
    (k : ∀ (v : Option Value) (T' : State) (L' : List Loc), Stand p l e R s m args below meth c T' (locs ++ L') (cells + rm.cells) (slots + rm.slots) → Q' v T'.heap L' → Go p.tables e below s Q C S (T'.setTop (mkF m (pc + 3) Ls (v.toList ++ rest)))) :
    Go p.tables e below s Q C S (T.setTop (mkF m pc Ls st)) := by
  obtain ⟨v, _, ⟨T', L', kc, kn⟩, -, X', ⟨Lc, hQ, l3, y3, z3⟩, st⟩ := Jvm.LawKit.callS X hx hown (mvT hZ w1) (mvT hZ w2) (mvT hZ w3) (mvT hZ w4) hy (backOf (W := W) hM hZ w4 w3 hf hl) (g := mkF m pc Ls st) rfl hsz (argsL := argsL) (rest := rest) (lenOf hpd hlen) hst (by show 2 * 0 + _ ≤ _; rw [hW]; omega) hd (fun _ _ => ⟨rfl, eT, hc, hn⟩)
  dsimp only [Pt.U, Pt.locs, Pt.cells, Pt.slots] at X' l3 y3 z3 st hQ
  subst l3 y3 z3
  exact Go.of st (k v T' Lc X' hQ)
theorem Go.callI (X : Stand p l e R s m args below meth c T locs cells slots) (hx : p.tables.exec = Jvm.exec) (hZ : Z.Warmed39 s.vm) {own : String} {index : Nat} {y : MethodName} {bytes : ByteArray} {maxL : Nat} {rm : Room} {Q' : Option Value → Heap → List Loc → Prop}
    (hown : s.vm.findClass own = some m.cls) (hy1 : y.name = "<init>") (w1 : (Cond.methodLink own index y).before a0 Z = true) (w2 : (Cond.instanceMethod y).before a0 Z = true) (w3 : (Cond.initialized y.cls).before a0 Z = true)
    (w4 : (Cond.code y bytes maxL none).before a0 Z = true) (hy : y.cls ≠ "java/lang/invoke/MethodHandle" ∧ y.cls ≠ "java/lang/invoke/VarHandle")
    (eT : T.heap = h) {pc : Nat} {Ls : Array Slot} {a : Addr} {argsL rest st : List Value} {W : Nat} {ps : List FieldType} (hM : Con l Z y bytes maxL none rm (.ref a :: argsL).toArray h Q') (hd : decode c.code pc = .ok (.invokespecial index, 3))
    (hsz : Ls.size = c.maxLocals) (hst : st = argsL.reverse ++ .ref a :: rest) (hpd : parseMethodDescriptor y.desc = some ⟨ps, none⟩) (hlen : argsL.length = ps.length) (hW : (rest.map fun v => v.category).sum = W)
    (hf : rm.frames + 1 ≤ R.frames) (hl : W + (maxL + 11) + rm.locals ≤ R.locals) (hc : cells + rm.cells ≤ R.cells) (hn : slots + rm.slots ≤ R.slots)
    (k : ∀ (v : Option Value) (T' : State) (L' : List Loc), Stand p l e R s m args below meth c T' (locs ++ L') (cells + rm.cells) (slots + rm.slots) → Q' v T'.heap L' → Go p.tables e below s Q C S (T'.setTop (mkF m (pc + 3) Ls (v.toList ++ rest)))) :
    Go p.tables e below s Q C S (T.setTop (mkF m pc Ls st)) := by
  obtain ⟨v, _, ⟨T', L', kc, kn⟩, -, X', ⟨Lc, hQ, l3, y3, z3⟩, st⟩ := X.specialBack hx hy1 hown (mvT hZ w1) (mvT hZ w2) (mvT hZ w4) hy (backOf (W := W) hM hZ w4 w3 hf hl) (g := mkF m pc Ls st) rfl hsz (Steps.refl _) (a := a) (argsL := argsL) (rest := rest) (lenOf hpd hlen) hst (by show 2 * 0 + _ ≤ _; rw [hW]; omega) hd (fun _ _ => ⟨rfl, eT, hc, hn⟩)
  dsimp only [Pt.U, Pt.locs, Pt.cells, Pt.slots] at X' l3 y3 z3 st hQ
  subst l3 y3 z3
  exact Go.of (fun _ q => st.trans q) (k v T' Lc X' hQ)
theorem Go.callV (X : Stand p l e R s m args below meth c T locs cells slots) (hx : p.tables.exec = Jvm.exec) (hZ : Z.Warmed39 s.vm) {own K : String} {index : Nat} {y z : MethodName} {bytes : ByteArray} {maxL : Nat} {ret : Option FieldType} {rm : Room} {Q' : Option Value → Heap → List Loc → Prop}
    (hown : s.vm.findClass own = some m.cls) (w1 : (Cond.methodLink own index y).before a0 Z = true) (w2 : (Cond.declares y).before a0 Z = true) (nf : NotFace s y) (w5 : (Cond.selects K y z).before a0 Z = true) (w6 : (Cond.instanceMethod z).before a0 Z = true) (w3 : (Cond.initialized z.cls).before a0 Z = true)
    (w4 : (Cond.code z bytes maxL ret).before a0 Z = true) (hy : y.cls ≠ "java/lang/invoke/MethodHandle" ∧ y.cls ≠ "java/lang/invoke/VarHandle")
    (eT : T.heap = h) {pc : Nat} {Ls : Array Slot} {a : Addr} {argsL rest st : List Value} {W : Nat} {ps : List FieldType} {rt : Option FieldType} (E : Exa Z h a K) (hM : Con l Z z bytes maxL ret rm (.ref a :: argsL).toArray h Q') (hd : decode c.code pc = .ok (.invokevirtual index, 3))
    (hsz : Ls.size = c.maxLocals) (hst : st = argsL.reverse ++ .ref a :: rest) (hpd : parseMethodDescriptor y.desc = some ⟨ps, rt⟩) (hlen : argsL.length = ps.length) (hW : (rest.map fun v => v.category).sum = W)
    (hf : rm.frames + 1 ≤ R.frames) (hl : W + (maxL + 11) + rm.locals ≤ R.locals) (hc : cells + rm.cells ≤ R.cells) (hn : slots + rm.slots ≤ R.slots)
    (k : ∀ (v : Option Value) (T' : State) (L' : List Loc), Stand p l e R s m args below meth c T' (locs ++ L') (cells + rm.cells) (slots + rm.slots) → Q' v T'.heap L' → Go p.tables e below s Q C S (T'.setTop (mkF m (pc + 3) Ls (v.toList ++ rest)))) :
    Go p.tables e below s Q C S (T.setTop (mkF m pc Ls st)) := by
  obtain ⟨cq, kq, qa, qb, qc⟩ := isOf hZ eT E
  obtain ⟨v, _, ⟨T', L', kc, kn⟩, -, X', ⟨Lc, hQ, l3, y3, z3⟩, st⟩ := X.virtualBack hx (y := y) (z := z) hown (mvT hZ w1) (mvT hZ w2) nf (mvT hZ w5) (mvT hZ w6) hy (backOf (W := W) hM hZ w4 w3 hf hl) qa qc (g := mkF m pc Ls st) rfl hsz (Steps.refl _) (argsL := argsL) (rest := rest) (lenOf hpd hlen) hst (by show 2 * 0 + _ ≤ _; rw [hW]; omega) hd (fun _ _ => ⟨rfl, eT, hc, hn⟩)
  dsimp only [Pt.U, Pt.locs, Pt.cells, Pt.slots] at X' l3 y3 z3 st hQ
  subst l3 y3 z3
  exact Go.of (fun _ q => st.trans q) (k v T' Lc X' hQ)
/-- a private method by invokevirtual -/
theorem Go.callP (X : Stand p l e R s m args below meth c T locs cells slots) (hx : p.tables.exec = Jvm.exec) (hZ : Z.Warmed39 s.vm) {own K : String} {index : Nat} {y : MethodName} {bytes : ByteArray} {maxL : Nat} {ret : Option FieldType} {rm : Room} {Q' : Option Value → Heap → List Loc → Prop}
    (hown : s.vm.findClass own = some m.cls) (w1 : (Cond.methodLink own index y).before a0 Z = true) (w6 : (Cond.instanceMethod y).before a0 Z = true) {kk : Nat} (w5 : (Cond.instantiable y.cls kk).before a0 Z = true) (w7 : (Cond.privateMethod y).before a0 Z = true) (w3 : (Cond.initialized y.cls).before a0 Z = true)
    (w4 : (Cond.code y bytes maxL ret).before a0 Z = true) (hy : y.cls ≠ "java/lang/invoke/MethodHandle" ∧ y.cls ≠ "java/lang/invoke/VarHandle")
    (eT : T.heap = h) {pc : Nat} {Ls : Array Slot} {a : Addr} {argsL rest st : List Value} {W : Nat} {ps : List FieldType} {rt : Option FieldType} (E : Exa Z h a K) (hM : Con l Z y bytes maxL ret rm (.ref a :: argsL).toArray h Q') (hd : decode c.code pc = .ok (.invokevirtual index, 3))
    (hsz : Ls.size = c.maxLocals) (hst : st = argsL.reverse ++ .ref a :: rest) (hpd : parseMethodDescriptor y.desc = some ⟨ps, rt⟩) (hlen : argsL.length = ps.length) (hW : (rest.map fun v => v.category).sum = W)
    (hf : rm.frames + 1 ≤ R.frames) (hl : W + (maxL + 11) + rm.locals ≤ R.locals) (hc : cells + rm.cells ≤ R.cells) (hn : slots + rm.slots ≤ R.slots)
    (k : ∀ (v : Option Value) (T' : State) (L' : List Loc), Stand p l e R s m args below meth c T' (locs ++ L') (cells + rm.cells) (slots + rm.slots) → Q' v T'.heap L' → Go p.tables e below s Q C S (T'.setTop (mkF m (pc + 3) Ls (v.toList ++ rest)))) :
    Go p.tables e below s Q C S (T.setTop (mkF m pc Ls st)) := by
  obtain ⟨cq, q1, q2⟩ := E.cell
  obtain ⟨c2, k2, i1, i2, -, i4, -⟩ := Cond.instantiable_spec (mvT (args := args) hZ w5)
  have hpv : s.PrivateAt y := Cond.privateMethod_at (mvP hZ w7 (args := #[]))
  have hsel : (Cond.selects y.cls y y).before args s = true := selects_self_of_private i1 i2 (by simpa using (Bool.or_eq_false_iff.mp i4).1) hpv (mvT hZ w6) hy
  obtain ⟨v, _, ⟨T', L', kc, kn⟩, -, X', ⟨Lc, hQ, l3, y3, z3⟩, st⟩ := X.privateBack hx (y := y) hown (mvT hZ w1) (mvT hZ w6) hsel hpv (mvT hZ w4) hy (backOf (W := W) hM hZ w4 w3 hf hl) (g := mkF m pc Ls st) rfl hsz (Steps.refl _) (a := a) (by rw [eT]; exact q1) q2 (argsL := argsL) (rest := rest) (lenOf hpd hlen) hst (by show 2 * 0 + _ ≤ _; rw [hW]; omega) hd (fun _ _ => ⟨rfl, eT, hc, hn⟩)
  dsimp only [Pt.U, Pt.locs, Pt.cells, Pt.slots] at X' l3 y3 z3 st hQ
  subst l3 y3 z3
  exact Go.of (fun _ q => st.trans q) (k v T' Lc X' hQ)
end Call
/-- an array of n places, place i holding f i -/
def ArF (Z : State) (h : Heap) (a : Addr) (ty : FieldType) (n : Nat) (f : Nat → Value) : Prop :=
  ∃ cl : Cell, Arr Z h a cl ty ∧ cl.slots.size = n ∧ n < 2 ^ 31 ∧ (∀ i, i < n → cl.slots[i]? = some (f i)) ∧ ∀ i, i < n → fits ty (f i) = true
def upV (f : Nat → Value) (j : Nat) (v : Value) (i : Nat) : Value := if i = j then v else f i
def upI (f : Nat → Int32) (j : Nat) (v : Int32) (i : Nat) : Int32 := if i = j then v else f i
def upJ (f : Nat → Int64) (j : Nat) (v : Int64) (i : Nat) : Int64 := if i = j then v else f i
def upD (f : Nat → UInt64) (j : Nat) (v : UInt64) (i : Nat) : UInt64 := if i = j then v else f i
section ArF
variable {Z : State} {h h' : Heap} {a b : Addr} {ty : FieldType} {n : Nat} {f : Nat → Value} {sl : Nat} {v : Value} {ws : List Addr}
theorem ArF.lt (F : ArF Z h a ty n f) : a < h.size := by obtain ⟨c, A, -⟩ := F; exact A.lt
theorem ArF.ext (F : ArF Z h a ty n f) (E : Ext h h') : ArF Z h' a ty n f := by obtain ⟨c, A, r⟩ := F; exact ⟨c, A.ext E, r⟩
theorem ArF.other (F : ArF Z h b ty n f) (W : Wr h h' a sl v) (q : b ≠ a) : ArF Z h' b ty n f := by obtain ⟨c, A, r⟩ := F; exact ⟨c, A.other W q, r⟩
theorem ArF.keep (F : ArF Z h a ty n f) (K : Keep h h' ws) (q : a ∉ ws) : ArF Z h' a ty n f := by obtain ⟨c, A, r⟩ := F; exact ⟨c, ⟨K.2.1 a c A.1 q, A.2⟩, r⟩
theorem ArF.len (F : ArF Z h a ty n f) : n < 2 ^ 31 := by obtain ⟨c, A, r1, r2, -⟩ := F; exact r2
theorem ArF.fit (F : ArF Z h a ty n f) {i : Nat} (hi : i < n) : fits ty (f i) = true := by obtain ⟨c, A, r1, r2, r3, r4⟩ := F; exact r4 i hi
theorem ArF.congr {g : Nat → Value} (F : ArF Z h a ty n f) (q : ∀ i, i < n → g i = f i) : ArF Z h a ty n g := by
  obtain ⟨c, A, r1, r2, r3, r4⟩ := F
  exact ⟨c, A, r1, r2, fun i hi => by rw [q i hi]; exact r3 i hi, fun i hi => by rw [q i hi]; exact r4 i hi⟩
theorem ArF.new {k : ClassId} {z : Int32} (A : Arr Z h a (newA k ty z) ty) (hn : ¬ z < 0) (hz : z.toNatClampNeg = n) : ArF Z h a ty n (fun _ => defaultValue ty) := by
  subst hz
  refine ⟨_, A, sz_new _ _ _, (back32 hn).2, fun i hi => ?_, fun i hi => by cases ty <;> rfl⟩
  simp [newA, hi]
theorem ArF.set {x : Nat} (F : ArF Z h a ty n f) (hv : fits ty v = true) (W : Wr h h' a x v) : ArF Z h' a ty n (upV f x v) := by
  obtain ⟨c, A, r1, r2, r3, r4⟩ := F
  refine ⟨_, A.same W, by simp [Cell.setSlot, r1], r2, fun i hi => ?_, fun i hi => ?_⟩
  · by_cases e : i = x
    · subst e; simp [upV, Cell.setSlot, r1, hi]
    · simp only [upV, e, if_false, Cell.setSlot]
      rw [Array.getElem?_setIfInBounds_ne (Ne.symm e)]; exact r3 i hi
  · by_cases e : i = x
    · simp [upV, e, hv]
    · simp only [upV, e, if_false]; exact r4 i hi
theorem ArF.arv (F : ArF Z h a ty n f) (d : Value) : ∃ k, Arv Z h a k ty n.toInt32 ((List.range n).map f) d := by
  obtain ⟨c, A, r1, r2, r3, r4⟩ := F
  have hz : (n.toInt32).toInt = n := len_toInt r2
  have hz0 : (0 : Int32).toInt = 0 := rfl
  have hg : ∀ i, i < n → ((List.range n).map f).getD i d = f i := fun i hi => by simp [List.getD, hi]
  refine ⟨c.cls, c, A, rfl, ?_, by rw [Int32.lt_iff_toInt_lt]; omega, fun i hi => ?_, fun i hi => ?_⟩
  · rw [r1, Int32.toNatClampNeg]; omega
  · rw [r1] at hi; rw [hg i hi]; exact r3 i hi
  · rw [r1] at hi; rw [hg i hi]; exact r4 i hi
theorem arF_of_arv {k : ClassId} {z : Int32} {vs : List Value} {d : Value} (F : Arv Z h a k ty z vs d) : ArF Z h a ty z.toNatClampNeg (fun i => vs.getD i d) := by
  obtain ⟨c, A, -, r2, r3, r4, r5⟩ := F
  exact ⟨c, A, r2, (back32 r3).2, fun i hi => r4 i (by rw [r2]; exact hi), fun i hi => r5 i (by rw [r2]; exact hi)⟩
/-- n places of f from sp on, laid over f' from dp on -/
def cpF (f f' : Nat → Value) (sp dp nn : Nat) (i : Nat) : Value := if dp ≤ i ∧ i < dp + nn then f (sp + (i - dp)) else f' i
def cpT {α : Type} (f f' : Nat → α) (sp dp nn : Nat) (i : Nat) : α := if dp ≤ i ∧ i < dp + nn then f (sp + (i - dp)) else f' i
theorem ArF.cpI {g g' : Nat → Int32} {x y z : Nat} (F : ArF Z h a ty n (cpF (fun i => .int (g i)) (fun i => .int (g' i)) x y z)) : ArF Z h a ty n (fun i => .int (cpT g g' x y z i)) := F.congr fun i _ => by simp only [cpF, cpT]; split <;> rfl
theorem ArF.cpJ {g g' : Nat → Int64} {x y z : Nat} (F : ArF Z h a ty n (cpF (fun i => .long (g i)) (fun i => .long (g' i)) x y z)) : ArF Z h a ty n (fun i => .long (cpT g g' x y z i)) := F.congr fun i _ => by simp only [cpF, cpT]; split <;> rfl
theorem ArF.cpD {g g' : Nat → UInt64} {x y z : Nat} (F : ArF Z h a ty n (cpF (fun i => .double (g i)) (fun i => .double (g' i)) x y z)) : ArF Z h a ty n (fun i => .double (cpT g g' x y z i)) := F.congr fun i _ => by simp only [cpF, cpT]; split <;> rfl
theorem nat_idx {j : Int32} {k : Nat} (hj : j.toInt = (k : Int)) : j.toNatClampNeg = k := by simp only [Int32.toNatClampNeg]; omega
theorem in_idx {j : Int32} {k : Nat} {c : Cell} (hj : j.toInt = (k : Int)) (hk : k < n) (e : c.slots.size = n) : ¬ (j < 0 ∨ c.slots.size ≤ j.toNatClampNeg) := by
  rw [nat_idx hj, e, Int32.lt_iff_toInt_lt]
  have : (0 : Int32).toInt = 0 := rfl
  omega
end ArF
section ArrSteps
variable {p : Program} {l : Launch} {e : Env} {R : Room} {s : State} {m : MethodId} {args : Array Value} {below : List Frame} {meth : Method} {c : Code} {T : State} {locs : List Loc} {cells slots : Nat} {Q : Option Value → Heap → List Loc → Prop} {C S : Nat} {Z : State} {a0 : Array Value} {h : Heap} {a : Addr} {n : Nat} {j : Int32} {pc : Nat} {Ls : Array Slot} {rest : List Value}
theorem Go.alen (X : Stand p l e R s m args below meth c T locs cells slots) (hx : p.tables.exec = Jvm.exec) (hZ : Z.Warmed39 s.vm) (eT : T.heap = h) {ty : FieldType} {f : Nat → Value} (F : ArF Z h a ty n f) (hd : decode c.code pc = .ok (.arraylength, 1))
    (kk : Go p.tables e below s Q C S (T.setTop (mkF m (pc + 1) Ls (.int n.toInt32 :: rest)))) : Go p.tables e below s Q C S (T.setTop (mkF m pc Ls (.ref a :: rest))) := by
  obtain ⟨cl, A, r1, r2, -⟩ := F
  subst r1
  exact Go.of (fun t q => X.arraylength hx (by rw [eT]; exact A.1) (State.isArrayOf_alike hZ.alike A.2.1) (g := mkF m pc Ls (.ref a :: rest)) rfl rfl hd t q) kk
theorem Go.iaload (X : Stand p l e R s m args below meth c T locs cells slots) (hx : p.tables.exec = Jvm.exec) (hZ : Z.Warmed39 s.vm) (eT : T.heap = h) {f : Nat → Int32} (F : ArF Z h a .int n (fun i => .int (f i))) {k : Nat} (hj : j.toInt = (k : Int)) (hk : k < n) (hd : decode c.code pc = .ok (.iaload, 1))
    (kk : Go p.tables e below s Q C S (T.setTop (mkF m (pc + 1) Ls (.int (f k) :: rest)))) : Go p.tables e below s Q C S (T.setTop (mkF m pc Ls (.int j :: .ref a :: rest))) := by
  obtain ⟨cl, A, r1, r2, r3, -⟩ := F
  exact Go.of (fun t q => X.iaload hx (j := j) (v := .int (f k)) (by rw [eT]; exact A.1) (State.isArrayOf_alike hZ.alike A.2.1) A.2.2 (in_idx hj hk r1) (by rw [nat_idx hj, r3 _ hk]) (g := mkF m pc Ls (.int j :: .ref a :: rest)) rfl rfl hd t q) kk
theorem Go.laload (X : Stand p l e R s m args below meth c T locs cells slots) (hx : p.tables.exec = Jvm.exec) (hZ : Z.Warmed39 s.vm) (eT : T.heap = h) {f : Nat → Int64} (F : ArF Z h a .long n (fun i => .long (f i))) {k : Nat} (hj : j.toInt = (k : Int)) (hk : k < n) (hd : decode c.code pc = .ok (.laload, 1))
    (kk : Go p.tables e below s Q C S (T.setTop (mkF m (pc + 1) Ls (.long (f k) :: rest)))) : Go p.tables e below s Q C S (T.setTop (mkF m pc Ls (.int j :: .ref a :: rest))) := by
  obtain ⟨cl, A, r1, r2, r3, -⟩ := F
  exact Go.of (fun t q => X.laload hx (j := j) (v := .long (f k)) (by rw [eT]; exact A.1) (State.isArrayOf_alike hZ.alike A.2.1) A.2.2 (in_idx hj hk r1) (by rw [nat_idx hj, r3 _ hk]) (g := mkF m pc Ls (.int j :: .ref a :: rest)) rfl rfl hd t q) kk
theorem Go.baload (X : Stand p l e R s m args below meth c T locs cells slots) (hx : p.tables.exec = Jvm.exec) (hZ : Z.Warmed39 s.vm) (eT : T.heap = h) {f : Nat → Int32} (F : ArF Z h a .byte n (fun i => .int (f i))) {k : Nat} (hj : j.toInt = (k : Int)) (hk : k < n) (hd : decode c.code pc = .ok (.baload, 1))
    (kk : Go p.tables e below s Q C S (T.setTop (mkF m (pc + 1) Ls (.int (f k) :: rest)))) : Go p.tables e below s Q C S (T.setTop (mkF m pc Ls (.int j :: .ref a :: rest))) := by
  obtain ⟨cl, A, r1, r2, r3, -⟩ := F
  exact Go.of (fun t q => X.baloadBytes hx (j := j) (v := .int (f k)) (by rw [eT]; exact A.1) (State.isArrayOf_alike hZ.alike A.2.1) A.2.2 (in_idx hj hk r1) (by rw [nat_idx hj, r3 _ hk]) (g := mkF m pc Ls (.int j :: .ref a :: rest)) rfl rfl hd t q) kk
theorem Go.daload (X : Stand p l e R s m args below meth c T locs cells slots) (hx : p.tables.exec = Jvm.exec) (hZ : Z.Warmed39 s.vm) (eT : T.heap = h) {f : Nat → UInt64} (F : ArF Z h a .double n (fun i => .double (f i))) {k : Nat} (hj : j.toInt = (k : Int)) (hk : k < n) (hd : decode c.code pc = .ok (.daload, 1))
    (kk : Go p.tables e below s Q C S (T.setTop (mkF m (pc + 1) Ls (.double (f k) :: rest)))) : Go p.tables e below s Q C S (T.setTop (mkF m pc Ls (.int j :: .ref a :: rest))) := by
  obtain ⟨cl, A, r1, r2, r3, -⟩ := F
  exact Go.of (fun t q => X.daload hx (j := j) (v := .double (f k)) (by rw [eT]; exact A.1) (State.isArrayOf_alike hZ.alike A.2.1) A.2.2 (in_idx hj hk r1) (by rw [nat_idx hj, r3 _ hk]) (g := mkF m pc Ls (.int j :: .ref a :: rest)) rfl rfl hd t q) kk
theorem Go.aaload (X : Stand p l e R s m args below meth c T locs cells slots) (hx : p.tables.exec = Jvm.exec) (hZ : Z.Warmed39 s.vm) (eT : T.heap = h) {ty : FieldType} {f : Nat → Value} (F : ArF Z h a ty n f) (hty : ty.isReference = true) {k : Nat} (hj : j.toInt = (k : Int)) (hk : k < n) {v : Value} (hv : f k = v) (hd : decode c.code pc = .ok (.aaload, 1))
    (kk : Go p.tables e below s Q C S (T.setTop (mkF m (pc + 1) Ls (v :: rest)))) : Go p.tables e below s Q C S (T.setTop (mkF m pc Ls (.int j :: .ref a :: rest))) := by
  obtain ⟨cl, A, r1, r2, r3, -⟩ := F
  exact Go.of (fun t q => X.aaload hx (j := j) (v := v) (by rw [eT]; exact A.1) (State.isArrayOf_alike hZ.alike A.2.1) hty A.2.2 (in_idx hj hk r1) (by rw [nat_idx hj, r3 _ hk, hv]) (g := mkF m pc Ls (.int j :: .ref a :: rest)) rfl rfl hd t q) kk
theorem Go.iastore (X : Stand p l e R s m args below meth c T locs cells slots) (hx : p.tables.exec = Jvm.exec) (hZ : Z.Warmed39 s.vm) (eT : T.heap = h) {f : Nat → Int32} (F : ArF Z h a .int n (fun i => .int (f i))) {x : Int32} {k : Nat} (hj : j.toInt = (k : Int)) (hk : k < n) (hd : decode c.code pc = .ok (.iastore, 1))
    (kk : ∀ T' h', Stand p l e R s m args below meth c T' (locs ++ [⟨a, k⟩]) cells slots → T'.heap = h' → Wr h h' a k (.int x) → ArF Z h' a .int n (fun i => .int (upI f k x i)) → Go p.tables e below s Q C S (T'.setTop (mkF m (pc + 1) Ls rest))) : Go p.tables e below s Q C S (T.setTop (mkF m pc Ls (.int x :: .int j :: .ref a :: rest))) := by
  obtain ⟨cl, A, r1, r2, r3, r4⟩ := F
  obtain ⟨T', h', X', e', W, st⟩ := stI X hx hZ eT A (j := j) (in_idx hj hk r1) (g := mkF m pc Ls (.int x :: .int j :: .ref a :: rest)) rfl rfl hd
  rw [nat_idx hj] at X' W
  exact Go.of st (kk T' h' X' e' W ((ArF.set ⟨cl, A, r1, r2, r3, r4⟩ rfl W).congr fun i _ => by simp only [upV, upI]; split <;> rfl))
theorem Go.lastore (X : Stand p l e R s m args below meth c T locs cells slots) (hx : p.tables.exec = Jvm.exec) (hZ : Z.Warmed39 s.vm) (eT : T.heap = h) {f : Nat → Int64} (F : ArF Z h a .long n (fun i => .long (f i))) {x : Int64} {k : Nat} (hj : j.toInt = (k : Int)) (hk : k < n) (hd : decode c.code pc = .ok (.lastore, 1))
    (kk : ∀ T' h', Stand p l e R s m args below meth c T' (locs ++ [⟨a, k⟩]) cells slots → T'.heap = h' → Wr h h' a k (.long x) → ArF Z h' a .long n (fun i => .long (upJ f k x i)) → Go p.tables e below s Q C S (T'.setTop (mkF m (pc + 1) Ls rest))) : Go p.tables e below s Q C S (T.setTop (mkF m pc Ls (.long x :: .int j :: .ref a :: rest))) := by
  obtain ⟨cl, A, r1, r2, r3, r4⟩ := F
  obtain ⟨T', h', X', e', W, st⟩ := stJ X hx hZ eT A (j := j) (in_idx hj hk r1) (g := mkF m pc Ls (.long x :: .int j :: .ref a :: rest)) rfl rfl hd
  rw [nat_idx hj] at X' W
  exact Go.of st (kk T' h' X' e' W ((ArF.set ⟨cl, A, r1, r2, r3, r4⟩ rfl W).congr fun i _ => by simp only [upV, upJ]; split <;> rfl))
theorem Go.bastore (X : Stand p l e R s m args below meth c T locs cells slots) (hx : p.tables.exec = Jvm.exec) (hZ : Z.Warmed39 s.vm) (eT : T.heap = h) {f : Nat → Int32} (F : ArF Z h a .byte n (fun i => .int (f i))) {x : Int32} {k : Nat} (hj : j.toInt = (k : Int)) (hk : k < n) (hd : decode c.code pc = .ok (.bastore, 1))
    (kk : ∀ T' h', Stand p l e R s m args below meth c T' (locs ++ [⟨a, k⟩]) cells slots → T'.heap = h' → Wr h h' a k (.int (nar .byte x)) → ArF Z h' a .byte n (fun i => .int (upI f k (nar .byte x) i)) → Go p.tables e below s Q C S (T'.setTop (mkF m (pc + 1) Ls rest))) : Go p.tables e below s Q C S (T.setTop (mkF m pc Ls (.int x :: .int j :: .ref a :: rest))) := by
  obtain ⟨cl, A, r1, r2, r3, r4⟩ := F
  obtain ⟨T', h', X', e', W, st⟩ := stB X hx hZ eT A (j := j) (in_idx hj hk r1) (g := mkF m pc Ls (.int x :: .int j :: .ref a :: rest)) rfl rfl hd
  rw [nat_idx hj] at X' W
  exact Go.of st (kk T' h' X' e' W ((ArF.set ⟨cl, A, r1, r2, r3, r4⟩ (fits_nar_byte _) W).congr fun i _ => by simp only [upV, upI]; split <;> rfl))
theorem Go.dastore (X : Stand p l e R s m args below meth c T locs cells slots) (hx : p.tables.exec = Jvm.exec) (hZ : Z.Warmed39 s.vm) (eT : T.heap = h) {f : Nat → UInt64} (F : ArF Z h a .double n (fun i => .double (f i))) {x : UInt64} {k : Nat} (hj : j.toInt = (k : Int)) (hk : k < n) (hd : decode c.code pc = .ok (.dastore, 1))
    (kk : ∀ T' h', Stand p l e R s m args below meth c T' (locs ++ [⟨a, k⟩]) cells slots → T'.heap = h' → Wr h h' a k (.double x) → ArF Z h' a .double n (fun i => .double (upD f k x i)) → Go p.tables e below s Q C S (T'.setTop (mkF m (pc + 1) Ls rest))) : Go p.tables e below s Q C S (T.setTop (mkF m pc Ls (.double x :: .int j :: .ref a :: rest))) := by
  obtain ⟨cl, A, r1, r2, r3, r4⟩ := F
  obtain ⟨T', h', X', e', W, st⟩ := stD X hx hZ eT A (j := j) (in_idx hj hk r1) (g := mkF m pc Ls (.double x :: .int j :: .ref a :: rest)) rfl rfl hd
  rw [nat_idx hj] at X' W
  exact Go.of st (kk T' h' X' e' W ((ArF.set ⟨cl, A, r1, r2, r3, r4⟩ rfl W).congr fun i _ => by simp only [upV, upD]; split <;> rfl))
theorem Go.newarr (X : Stand p l e R s m args below meth c T locs cells slots) (hx : p.tables.exec = Jvm.exec) (hZ : Z.Warmed39 s.vm) {aty : ArrayType} {ty : FieldType} (hty : newarray.typeOf aty = ty) (w : (Cond.arrayClass ty).before a0 Z = true) (eT : T.heap = h) {z : Int32} (hn : ¬ z < 0) (hz : z.toNatClampNeg = n) {cap : Nat} (hcap : n ≤ cap) (hb : cap * 8 ≤ 536870912) (hc : cells + 1 ≤ R.cells) (hl : slots + cap ≤ R.slots)
    (hd : decode c.code pc = .ok (.newarray aty, 2))
    (kk : ∀ T' h' b, Stand p l e R s m args below meth c T' locs (cells + 1) (slots + cap) → T'.heap = h' → Ext h h' → b = h.size → ArF Z h' b ty n (fun _ => defaultValue ty) → Go p.tables e below s Q C S (T'.setTop (mkF m (pc + 2) Ls (.ref b :: rest)))) : Go p.tables e below s Q C S (T.setTop (mkF m pc Ls (.int z :: rest))) := by
  subst hty
  obtain ⟨T', h', cA, X', e', E, A, st⟩ := newP X hx hZ w eT (g := mkF m pc Ls (.int z :: rest)) rfl hd rfl hn (cap := cap) (by omega) hb hc hl
  exact Go.of st (kk T' h' h.size X' e' E rfl (ArF.new A hn hz))
theorem Go.arraycopy (X : Stand p l e R s m args below meth c T locs cells slots) (hx : p.tables.exec = Jvm.exec) (hZ : Z.Warmed39 s.vm) {own : String} {index : Nat} (hown : s.vm.findClass own = some m.cls)
    (w1 : (Cond.methodLink own index Jvm.Stand.acN).before a0 Z = true) (w2 : (Cond.native Jvm.Stand.acN).before a0 Z = true) (w3 : (Cond.static Jvm.Stand.acN).before a0 Z = true) (w4 : (Cond.initialized "java/lang/System").before a0 Z = true) (eT : T.heap = h)
    {ty : FieldType} {b : Addr} {n' : Nat} {f f' : Nat → Value} (A : ArF Z h a ty n f) (B : ArF Z h b ty n' f') (hty : refKind ty = false) {sp dp nn : Int32} {ks kd kn : Nat} (h1 : sp.toInt = (ks : Int)) (h2 : dp.toInt = (kd : Int)) (h3 : nn.toInt = (kn : Int)) (h4 : ks + kn ≤ n) (h5 : kd + kn ≤ n') {n0 : Nat} (N : Fr n0 locs) (ge : n0 ≤ b)
    (hsz : Ls.size = c.maxLocals) (hd : decode c.code pc = .ok (.invokestatic index, 3)) (hf : 1 ≤ R.frames) {W : Nat} (hW : (rest.map fun v => v.category).sum = W) (hlo : W + (nativeFrameWords "java/lang/System" "arraycopy" 5 + 11) ≤ R.locals)
    (kk : ∀ T' h' L, Stand p l e R s m args below meth c T' L cells slots → T'.heap = h' → Fr n0 L → Keep h h' [b] → ArF Z h' b ty n' (cpF f f' ks kd kn) → Go p.tables e below s Q C S (T'.setTop (mkF m (pc + 3) Ls rest))) : Go p.tables e below s Q C S (T.setTop (mkF m pc Ls (.int nn :: .int dp :: .ref b :: .int sp :: .ref a :: rest))) := by
  obtain ⟨k1, A'⟩ := A.arv (.int 0)
  obtain ⟨k2, B'⟩ := B.arv (.int 0)
  have e1 := nat_idx h1
  have e2 := nat_idx h2
  have e3 := nat_idx h3
  have z0 : (0 : Int32).toInt = 0 := rfl
  have zn : (n.toInt32).toNatClampNeg = n := by have := len_toInt A.len; rw [Int32.toNatClampNeg]; omega
  have zn' : (n'.toInt32).toNatClampNeg = n' := by have := len_toInt B.len; rw [Int32.toNatClampNeg]; omega
  obtain ⟨T', h', L, X', e', N', K, V, st⟩ := cpA X hx hZ hown w1 w2 w3 w4 eT A' B' (Or.inl ⟨rfl, hty⟩) (sp := sp) (dp := dp) (nn := nn) (by rw [Int32.lt_iff_toInt_lt]; omega) (by rw [Int32.lt_iff_toInt_lt]; omega) (by rw [Int32.lt_iff_toInt_lt]; omega) (by rw [e1, e3, zn]; exact h4) (by rw [e2, e3, zn']; exact h5) rfl (by rw [e2, e3]; simpa using h5) N ge (g := mkF m pc Ls (.int nn :: .int dp :: .ref b :: .int sp :: .ref a :: rest)) rfl hsz rfl hd hf (W := W) (by show 2 * 0 + _ ≤ _; rw [hW]; omega) hlo
  refine Go.of st (kk T' h' L X' e' N' K ?_)
  have V2 := arF_of_arv V
  rw [zn'] at V2
  refine V2.congr fun i hi => ?_
  rw [e1, e2, e3]
  simp only [cpF, List.getD]
  by_cases c1 : i < kd
  · rw [if_neg (by omega), List.append_assoc, List.getElem?_append_left (by simp; omega)]
    simp [c1, hi]
  · by_cases c2 : i < kd + kn
    · have c3 : ks + (i - kd) < n := by omega
      have c4 : i - kd < kn := by omega
      rw [if_pos ⟨by omega, c2⟩, List.append_assoc, List.getElem?_append_right (by simp; omega)]
      have c5 : (List.take kd (List.map f' (List.range n'))).length = kd := by simp; omega
      rw [c5, List.getElem?_append_left (by simpa using c4)]
      simp [c4, c3]
    · have c5 : (List.take kd (List.map f' (List.range n')) ++ List.map (fun i => ((List.map f (List.range n))[ks + i]?).getD (Value.int 0)) (List.range kn)).length = kd + kn := by simp; omega
      rw [if_neg (by omega), List.getElem?_append_right (by rw [c5]; omega), c5]
      have c6 : kd + kn + (i - (kd + kn)) = i := by omega
      simp [c6, hi]
end ArrSteps
section Steps1
variable {p : Program} {l : Launch} {e : Env} {R : Room} {s : State} {m : MethodId} {args : Array Value} {below : List Frame} {meth : Method} {c : Code} {T : State} {locs : List Loc} {cells slots : Nat} {Q : Option Value → Heap → List Loc → Prop} {C S : Nat} {bs : ByteArray} {pc pc' : Nat} {Ls : Array Slot} {st : List Value} {Z : State} {a0 : Array Value} {h : Heap} {own : String}
theorem g_iloadN (X : Stand p l e R s m args below meth c T locs cells slots) (hx : p.tables.exec = Jvm.exec) (hby : c.code = bs) {k : Fin 4} {v : Int32} (hd : decode bs pc = .ok (.iload_n k, 1)) (hp : pc + 1 = pc') (hl : Ls[k.val]? = some (.val (.int v))) (kk : Go p.tables e below s Q C S (T.setTop (mkF m pc' Ls (.int v :: st)))) : Go p.tables e below s Q C S (T.setTop (mkF m pc Ls (st))) := by
  subst hp
  exact Go.of (fun _ q => XS.iloadN X.here hx rfl (hb hby hd) hl q) kk
theorem g_iload (X : Stand p l e R s m args below meth c T locs cells slots) (hx : p.tables.exec = Jvm.exec) (hby : c.code = bs) {k : Nat} {v : Int32} (hd : decode bs pc = .ok (.iload k, 2)) (hp : pc + 2 = pc') (hl : Ls[k]? = some (.val (.int v))) (kk : Go p.tables e below s Q C S (T.setTop (mkF m pc' Ls (.int v :: st)))) : Go p.tables e below s Q C S (T.setTop (mkF m pc Ls (st))) := by
  subst hp
  exact Go.of (fun _ q => XS.iload X.here hx rfl (hb hby hd) hl q) kk
theorem g_istoreN (X : Stand p l e R s m args below meth c T locs cells slots) (hx : p.tables.exec = Jvm.exec) (hby : c.code = bs) {k : Fin 4} {v : Int32} {L' : Array Slot} (hd : decode bs pc = .ok (.istore_n k, 1)) (hp : pc + 1 = pc') (hl : storeLocals Ls k.val (.int v) = some L') (kk : Go p.tables e below s Q C S (T.setTop (mkF m pc' L' (st)))) : Go p.tables e below s Q C S (T.setTop (mkF m pc Ls (.int v :: st))) := by
  subst hp
  exact Go.of (fun _ q => XS.istoreN X.here hx rfl (hb hby hd) rfl hl q) kk
theorem g_istore (X : Stand p l e R s m args below meth c T locs cells slots) (hx : p.tables.exec = Jvm.exec) (hby : c.code = bs) {k : Nat} {v : Int32} {L' : Array Slot} (hd : decode bs pc = .ok (.istore k, 2)) (hp : pc + 2 = pc') (hl : storeLocals Ls k (.int v) = some L') (kk : Go p.tables e below s Q C S (T.setTop (mkF m pc' L' (st)))) : Go p.tables e below s Q C S (T.setTop (mkF m pc Ls (.int v :: st))) := by
  subst hp
  exact Go.of (fun _ q => XS.istore X.here hx rfl (hb hby hd) rfl hl q) kk
theorem g_iadd (X : Stand p l e R s m args below meth c T locs cells slots) (hx : p.tables.exec = Jvm.exec) (hby : c.code = bs) {x y z : Int32} (hd : decode bs pc = .ok (.iadd, 1)) (hp : pc + 1 = pc') (hz : x + y = z) (kk : Go p.tables e below s Q C S (T.setTop (mkF m pc' Ls (.int z :: st)))) : Go p.tables e below s Q C S (T.setTop (mkF m pc Ls (.int y :: .int x :: st))) := by
  subst hp; subst hz
  exact Go.of (fun _ q => XS.iadd X.here hx rfl (hb hby hd) rfl q) kk
theorem g_isub (X : Stand p l e R s m args below meth c T locs cells slots) (hx : p.tables.exec = Jvm.exec) (hby : c.code = bs) {x y z : Int32} (hd : decode bs pc = .ok (.isub, 1)) (hp : pc + 1 = pc') (hz : x - y = z) (kk : Go p.tables e below s Q C S (T.setTop (mkF m pc' Ls (.int z :: st)))) : Go p.tables e below s Q C S (T.setTop (mkF m pc Ls (.int y :: .int x :: st))) := by
  subst hp; subst hz
  exact Go.of (fun _ q => XS.isub X.here hx rfl (hb hby hd) rfl q) kk
theorem g_imul (X : Stand p l e R s m args below meth c T locs cells slots) (hx : p.tables.exec = Jvm.exec) (hby : c.code = bs) {x y z : Int32} (hd : decode bs pc = .ok (.imul, 1)) (hp : pc + 1 = pc') (hz : x * y = z) (kk : Go p.tables e below s Q C S (T.setTop (mkF m pc' Ls (.int z :: st)))) : Go p.tables e below s Q C S (T.setTop (mkF m pc Ls (.int y :: .int x :: st))) := by
  subst hp; subst hz
  exact Go.of (fun _ q => XS.imul X.here hx rfl (hb hby hd) rfl q) kk
theorem g_iand (X : Stand p l e R s m args below meth c T locs cells slots) (hx : p.tables.exec = Jvm.exec) (hby : c.code = bs) {x y z : Int32} (hd : decode bs pc = .ok (.iand, 1)) (hp : pc + 1 = pc') (hz : x &&& y = z) (kk : Go p.tables e below s Q C S (T.setTop (mkF m pc' Ls (.int z :: st)))) : Go p.tables e below s Q C S (T.setTop (mkF m pc Ls (.int y :: .int x :: st))) := by
  subst hp; subst hz
  exact Go.of (fun _ q => XS.iand X.here hx rfl (hb hby hd) rfl q) kk
theorem g_ior (X : Stand p l e R s m args below meth c T locs cells slots) (hx : p.tables.exec = Jvm.exec) (hby : c.code = bs) {x y z : Int32} (hd : decode bs pc = .ok (.ior, 1)) (hp : pc + 1 = pc') (hz : x ||| y = z) (kk : Go p.tables e below s Q C S (T.setTop (mkF m pc' Ls (.int z :: st)))) : Go p.tables e below s Q C S (T.setTop (mkF m pc Ls (.int y :: .int x :: st))) := by
  subst hp; subst hz
  exact Go.of (fun _ q => XS.ior X.here hx rfl (hb hby hd) rfl q) kk
theorem g_ixor (X : Stand p l e R s m args below meth c T locs cells slots) (hx : p.tables.exec = Jvm.exec) (hby : c.code = bs) {x y z : Int32} (hd : decode bs pc = .ok (.ixor, 1)) (hp : pc + 1 = pc') (hz : x ^^^ y = z) (kk : Go p.tables e below s Q C S (T.setTop (mkF m pc' Ls (.int z :: st)))) : Go p.tables e below s Q C S (T.setTop (mkF m pc Ls (.int y :: .int x :: st))) := by
  subst hp; subst hz
  exact Go.of (fun _ q => XS.ixor X.here hx rfl (hb hby hd) rfl q) kk
theorem g_ineg (X : Stand p l e R s m args below meth c T locs cells slots) (hx : p.tables.exec = Jvm.exec) (hby : c.code = bs) {x z : Int32} (hd : decode bs pc = .ok (.ineg, 1)) (hp : pc + 1 = pc') (hz : -x = z) (kk : Go p.tables e below s Q C S (T.setTop (mkF m pc' Ls (.int z :: st)))) : Go p.tables e below s Q C S (T.setTop (mkF m pc Ls (.int x :: st))) := by
  subst hp; subst hz
  exact Go.of (fun _ q => XS.ineg X.here hx rfl (hb hby hd) rfl q) kk
theorem g_idiv (X : Stand p l e R s m args below meth c T locs cells slots) (hx : p.tables.exec = Jvm.exec) (hby : c.code = bs) {x y z : Int32} (hd : decode bs pc = .ok (.idiv, 1)) (hp : pc + 1 = pc') (hy : y ≠ 0) (hz : x / y = z) (kk : Go p.tables e below s Q C S (T.setTop (mkF m pc' Ls (.int z :: st)))) : Go p.tables e below s Q C S (T.setTop (mkF m pc Ls (.int y :: .int x :: st))) := by
  subst hp; subst hz
  exact Go.of (fun _ q => XS.idiv X.here hx rfl (hb hby hd) rfl hy q) kk
theorem g_lloadN (X : Stand p l e R s m args below meth c T locs cells slots) (hx : p.tables.exec = Jvm.exec) (hby : c.code = bs) {k : Fin 4} {v : Int64} (hd : decode bs pc = .ok (.lload_n k, 1)) (hp : pc + 1 = pc') (hl : Ls[k.val]? = some (.val (.long v))) (kk : Go p.tables e below s Q C S (T.setTop (mkF m pc' Ls (.long v :: st)))) : Go p.tables e below s Q C S (T.setTop (mkF m pc Ls (st))) := by
  subst hp
  exact Go.of (fun _ q => XS.lloadN X.here hx rfl (hb hby hd) hl q) kk
theorem g_lload (X : Stand p l e R s m args below meth c T locs cells slots) (hx : p.tables.exec = Jvm.exec) (hby : c.code = bs) {k : Nat} {v : Int64} (hd : decode bs pc = .ok (.lload k, 2)) (hp : pc + 2 = pc') (hl : Ls[k]? = some (.val (.long v))) (kk : Go p.tables e below s Q C S (T.setTop (mkF m pc' Ls (.long v :: st)))) : Go p.tables e below s Q C S (T.setTop (mkF m pc Ls (st))) := by
  subst hp
  exact Go.of (fun _ q => XS.lload X.here hx rfl (hb hby hd) hl q) kk
theorem g_lstoreN (X : Stand p l e R s m args below meth c T locs cells slots) (hx : p.tables.exec = Jvm.exec) (hby : c.code = bs) {k : Fin 4} {v : Int64} {L' : Array Slot} (hd : decode bs pc = .ok (.lstore_n k, 1)) (hp : pc + 1 = pc') (hl : storeLocals Ls k.val (.long v) = some L') (kk : Go p.tables e below s Q C S (T.setTop (mkF m pc' L' (st)))) : Go p.tables e below s Q C S (T.setTop (mkF m pc Ls (.long v :: st))) := by
  subst hp
  exact Go.of (fun _ q => XS.lstoreN X.here hx rfl (hb hby hd) rfl hl q) kk
theorem g_lstore (X : Stand p l e R s m args below meth c T locs cells slots) (hx : p.tables.exec = Jvm.exec) (hby : c.code = bs) {k : Nat} {v : Int64} {L' : Array Slot} (hd : decode bs pc = .ok (.lstore k, 2)) (hp : pc + 2 = pc') (hl : storeLocals Ls k (.long v) = some L') (kk : Go p.tables e below s Q C S (T.setTop (mkF m pc' L' (st)))) : Go p.tables e below s Q C S (T.setTop (mkF m pc Ls (.long v :: st))) := by
  subst hp
  exact Go.of (fun _ q => XS.lstore X.here hx rfl (hb hby hd) rfl hl q) kk
theorem g_ladd (X : Stand p l e R s m args below meth c T locs cells slots) (hx : p.tables.exec = Jvm.exec) (hby : c.code = bs) {x y z : Int64} (hd : decode bs pc = .ok (.ladd, 1)) (hp : pc + 1 = pc') (hz : x + y = z) (kk : Go p.tables e below s Q C S (T.setTop (mkF m pc' Ls (.long z :: st)))) : Go p.tables e below s Q C S (T.setTop (mkF m pc Ls (.long y :: .long x :: st))) := by
  subst hp; subst hz
  exact Go.of (fun _ q => XS.ladd X.here hx rfl (hb hby hd) rfl q) kk
theorem g_lsub (X : Stand p l e R s m args below meth c T locs cells slots) (hx : p.tables.exec = Jvm.exec) (hby : c.code = bs) {x y z : Int64} (hd : decode bs pc = .ok (.lsub, 1)) (hp : pc + 1 = pc') (hz : x - y = z) (kk : Go p.tables e below s Q C S (T.setTop (mkF m pc' Ls (.long z :: st)))) : Go p.tables e below s Q C S (T.setTop (mkF m pc Ls (.long y :: .long x :: st))) := by
  subst hp; subst hz
  exact Go.of (fun _ q => XS.lsub X.here hx rfl (hb hby hd) rfl q) kk
theorem g_lmul (X : Stand p l e R s m args below meth c T locs cells slots) (hx : p.tables.exec = Jvm.exec) (hby : c.code = bs) {x y z : Int64} (hd : decode bs pc = .ok (.lmul, 1)) (hp : pc + 1 = pc') (hz : x * y = z) (kk : Go p.tables e below s Q C S (T.setTop (mkF m pc' Ls (.long z :: st)))) : Go p.tables e below s Q C S (T.setTop (mkF m pc Ls (.long y :: .long x :: st))) := by
  subst hp; subst hz
  exact Go.of (fun _ q => XS.lmul X.here hx rfl (hb hby hd) rfl q) kk
theorem g_land (X : Stand p l e R s m args below meth c T locs cells slots) (hx : p.tables.exec = Jvm.exec) (hby : c.code = bs) {x y z : Int64} (hd : decode bs pc = .ok (.land, 1)) (hp : pc + 1 = pc') (hz : x &&& y = z) (kk : Go p.tables e below s Q C S (T.setTop (mkF m pc' Ls (.long z :: st)))) : Go p.tables e below s Q C S (T.setTop (mkF m pc Ls (.long y :: .long x :: st))) := by
  subst hp; subst hz
  exact Go.of (fun _ q => XS.land X.here hx rfl (hb hby hd) rfl q) kk
theorem g_lor (X : Stand p l e R s m args below meth c T locs cells slots) (hx : p.tables.exec = Jvm.exec) (hby : c.code = bs) {x y z : Int64} (hd : decode bs pc = .ok (.lor, 1)) (hp : pc + 1 = pc') (hz : x ||| y = z) (kk : Go p.tables e below s Q C S (T.setTop (mkF m pc' Ls (.long z :: st)))) : Go p.tables e below s Q C S (T.setTop (mkF m pc Ls (.long y :: .long x :: st))) := by
  subst hp; subst hz
  exact Go.of (fun _ q => XS.lor X.here hx rfl (hb hby hd) rfl q) kk
theorem g_lxor (X : Stand p l e R s m args below meth c T locs cells slots) (hx : p.tables.exec = Jvm.exec) (hby : c.code = bs) {x y z : Int64} (hd : decode bs pc = .ok (.lxor, 1)) (hp : pc + 1 = pc') (hz : x ^^^ y = z) (kk : Go p.tables e below s Q C S (T.setTop (mkF m pc' Ls (.long z :: st)))) : Go p.tables e below s Q C S (T.setTop (mkF m pc Ls (.long y :: .long x :: st))) := by
  subst hp; subst hz
  exact Go.of (fun _ q => XS.lxor X.here hx rfl (hb hby hd) rfl q) kk
theorem g_lneg (X : Stand p l e R s m args below meth c T locs cells slots) (hx : p.tables.exec = Jvm.exec) (hby : c.code = bs) {x z : Int64} (hd : decode bs pc = .ok (.lneg, 1)) (hp : pc + 1 = pc') (hz : -x = z) (kk : Go p.tables e below s Q C S (T.setTop (mkF m pc' Ls (.long z :: st)))) : Go p.tables e below s Q C S (T.setTop (mkF m pc Ls (.long x :: st))) := by
  subst hp; subst hz
  exact Go.of (fun _ q => XS.lneg X.here hx rfl (hb hby hd) rfl q) kk
theorem g_ldiv (X : Stand p l e R s m args below meth c T locs cells slots) (hx : p.tables.exec = Jvm.exec) (hby : c.code = bs) {x y z : Int64} (hd : decode bs pc = .ok (.ldiv, 1)) (hp : pc + 1 = pc') (hy : y ≠ 0) (hz : x / y = z) (kk : Go p.tables e below s Q C S (T.setTop (mkF m pc' Ls (.long z :: st)))) : Go p.tables e below s Q C S (T.setTop (mkF m pc Ls (.long y :: .long x :: st))) := by
  subst hp; subst hz
  exact Go.of (fun _ q => XS.ldiv X.here hx rfl (hb hby hd) rfl hy q) kk
theorem g_dloadN (X : Stand p l e R s m args below meth c T locs cells slots) (hx : p.tables.exec = Jvm.exec) (hby : c.code = bs) {k : Fin 4} {v : UInt64} (hd : decode bs pc = .ok (.dload_n k, 1)) (hp : pc + 1 = pc') (hl : Ls[k.val]? = some (.val (.double v))) (kk : Go p.tables e below s Q C S (T.setTop (mkF m pc' Ls (.double v :: st)))) : Go p.tables e below s Q C S (T.setTop (mkF m pc Ls (st))) := by
  subst hp
  exact Go.of (fun _ q => XS.dloadN X.here hx rfl (hb hby hd) hl q) kk
theorem g_dload (X : Stand p l e R s m args below meth c T locs cells slots) (hx : p.tables.exec = Jvm.exec) (hby : c.code = bs) {k : Nat} {v : UInt64} (hd : decode bs pc = .ok (.dload k, 2)) (hp : pc + 2 = pc') (hl : Ls[k]? = some (.val (.double v))) (kk : Go p.tables e below s Q C S (T.setTop (mkF m pc' Ls (.double v :: st)))) : Go p.tables e below s Q C S (T.setTop (mkF m pc Ls (st))) := by
  subst hp
  exact Go.of (fun _ q => XS.dload X.here hx rfl (hb hby hd) hl q) kk
theorem g_dstoreN (X : Stand p l e R s m args below meth c T locs cells slots) (hx : p.tables.exec = Jvm.exec) (hby : c.code = bs) {k : Fin 4} {v : UInt64} {L' : Array Slot} (hd : decode bs pc = .ok (.dstore_n k, 1)) (hp : pc + 1 = pc') (hl : storeLocals Ls k.val (.double v) = some L') (kk : Go p.tables e below s Q C S (T.setTop (mkF m pc' L' (st)))) : Go p.tables e below s Q C S (T.setTop (mkF m pc Ls (.double v :: st))) := by
  subst hp
  exact Go.of (fun _ q => XS.dstoreN X.here hx rfl (hb hby hd) rfl hl q) kk
theorem g_dstore (X : Stand p l e R s m args below meth c T locs cells slots) (hx : p.tables.exec = Jvm.exec) (hby : c.code = bs) {k : Nat} {v : UInt64} {L' : Array Slot} (hd : decode bs pc = .ok (.dstore k, 2)) (hp : pc + 2 = pc') (hl : storeLocals Ls k (.double v) = some L') (kk : Go p.tables e below s Q C S (T.setTop (mkF m pc' L' (st)))) : Go p.tables e below s Q C S (T.setTop (mkF m pc Ls (.double v :: st))) := by
  subst hp
  exact Go.of (fun _ q => XS.dstore X.here hx rfl (hb hby hd) rfl hl q) kk
theorem g_irem (X : Stand p l e R s m args below meth c T locs cells slots) (hx : p.tables.exec = Jvm.exec) (hby : c.code = bs) {x y z : Int32} (hd : decode bs pc = .ok (.irem, 1)) (hp : pc + 1 = pc') (hy : y ≠ 0) (hz : x % y = z) (kk : Go p.tables e below s Q C S (T.setTop (mkF m pc' Ls (.int z :: st)))) : Go p.tables e below s Q C S (T.setTop (mkF m pc Ls (.int y :: .int x :: st))) := by
  subst hp; subst hz
  exact Go.of (fun _ q => XS.irem X.here hx rfl (hb hby hd) rfl hy (by rw [irem_mod]; exact q)) kk
theorem g_ishl (X : Stand p l e R s m args below meth c T locs cells slots) (hx : p.tables.exec = Jvm.exec) (hby : c.code = bs) {x z : Int32} {y : Int32} (hd : decode bs pc = .ok (.ishl, 1)) (hp : pc + 1 = pc') (hz : x <<< (y &&& 31) = z) (kk : Go p.tables e below s Q C S (T.setTop (mkF m pc' Ls (.int z :: st)))) : Go p.tables e below s Q C S (T.setTop (mkF m pc Ls (.int y :: .int x :: st))) := by
  subst hp; subst hz
  exact Go.of (fun _ q => XS.ishl X.here hx rfl (hb hby hd) rfl q) kk
theorem g_ishr (X : Stand p l e R s m args below meth c T locs cells slots) (hx : p.tables.exec = Jvm.exec) (hby : c.code = bs) {x z : Int32} {y : Int32} (hd : decode bs pc = .ok (.ishr, 1)) (hp : pc + 1 = pc') (hz : x >>> (y &&& 31) = z) (kk : Go p.tables e below s Q C S (T.setTop (mkF m pc' Ls (.int z :: st)))) : Go p.tables e below s Q C S (T.setTop (mkF m pc Ls (.int y :: .int x :: st))) := by
  subst hp; subst hz
  exact Go.of (fun _ q => XS.ishr X.here hx rfl (hb hby hd) rfl q) kk
theorem g_iushr (X : Stand p l e R s m args below meth c T locs cells slots) (hx : p.tables.exec = Jvm.exec) (hby : c.code = bs) {x z : Int32} {y : Int32} (hd : decode bs pc = .ok (.iushr, 1)) (hp : pc + 1 = pc') (hz : (x.toUInt32 >>> (y &&& 31).toUInt32).toInt32 = z) (kk : Go p.tables e below s Q C S (T.setTop (mkF m pc' Ls (.int z :: st)))) : Go p.tables e below s Q C S (T.setTop (mkF m pc Ls (.int y :: .int x :: st))) := by
  subst hp; subst hz
  exact Go.of (fun _ q => XS.iushr X.here hx rfl (hb hby hd) rfl q) kk
theorem g_lshl (X : Stand p l e R s m args below meth c T locs cells slots) (hx : p.tables.exec = Jvm.exec) (hby : c.code = bs) {x z : Int64} {y : Int32} (hd : decode bs pc = .ok (.lshl, 1)) (hp : pc + 1 = pc') (hz : x <<< (y &&& 0x3f).toInt64 = z) (kk : Go p.tables e below s Q C S (T.setTop (mkF m pc' Ls (.long z :: st)))) : Go p.tables e below s Q C S (T.setTop (mkF m pc Ls (.int y :: .long x :: st))) := by
  subst hp; subst hz
  exact Go.of (fun _ q => XS.lshl X.here hx rfl (hb hby hd) rfl q) kk
theorem g_lshr (X : Stand p l e R s m args below meth c T locs cells slots) (hx : p.tables.exec = Jvm.exec) (hby : c.code = bs) {x z : Int64} {y : Int32} (hd : decode bs pc = .ok (.lshr, 1)) (hp : pc + 1 = pc') (hz : x >>> (y &&& 0x3f).toInt64 = z) (kk : Go p.tables e below s Q C S (T.setTop (mkF m pc' Ls (.long z :: st)))) : Go p.tables e below s Q C S (T.setTop (mkF m pc Ls (.int y :: .long x :: st))) := by
  subst hp; subst hz
  exact Go.of (fun _ q => XS.lshr X.here hx rfl (hb hby hd) rfl q) kk
theorem g_lushr (X : Stand p l e R s m args below meth c T locs cells slots) (hx : p.tables.exec = Jvm.exec) (hby : c.code = bs) {x z : Int64} {y : Int32} (hd : decode bs pc = .ok (.lushr, 1)) (hp : pc + 1 = pc') (hz : (x.toUInt64 >>> (y &&& 0x3f).toInt64.toUInt64).toInt64 = z) (kk : Go p.tables e below s Q C S (T.setTop (mkF m pc' Ls (.long z :: st)))) : Go p.tables e below s Q C S (T.setTop (mkF m pc Ls (.int y :: .long x :: st))) := by
  subst hp; subst hz
  exact Go.of (fun _ q => XS.lushr X.here hx rfl (hb hby hd) rfl q) kk
theorem g_i2l (X : Stand p l e R s m args below meth c T locs cells slots) (hx : p.tables.exec = Jvm.exec) (hby : c.code = bs) {x : Int32} {z : Int64} (hd : decode bs pc = .ok (.i2l, 1)) (hp : pc + 1 = pc') (hz : x.toInt64 = z) (kk : Go p.tables e below s Q C S (T.setTop (mkF m pc' Ls (.long z :: st)))) : Go p.tables e below s Q C S (T.setTop (mkF m pc Ls (.int x :: st))) := by
  subst hp; subst hz
  exact Go.of (fun _ q => XS.i2l X.here hx rfl (hb hby hd) rfl q) kk
theorem g_l2i (X : Stand p l e R s m args below meth c T locs cells slots) (hx : p.tables.exec = Jvm.exec) (hby : c.code = bs) {x : Int64} {z : Int32} (hd : decode bs pc = .ok (.l2i, 1)) (hp : pc + 1 = pc') (hz : x.toInt32 = z) (kk : Go p.tables e below s Q C S (T.setTop (mkF m pc' Ls (.int z :: st)))) : Go p.tables e below s Q C S (T.setTop (mkF m pc Ls (.long x :: st))) := by
  subst hp; subst hz
  exact Go.of (fun _ q => XS.l2i X.here hx rfl (hb hby hd) rfl q) kk
theorem g_i2b (X : Stand p l e R s m args below meth c T locs cells slots) (hx : p.tables.exec = Jvm.exec) (hby : c.code = bs) {x : Int32} {z : Int32} (hd : decode bs pc = .ok (.i2b, 1)) (hp : pc + 1 = pc') (hz : x.toInt8.toInt32 = z) (kk : Go p.tables e below s Q C S (T.setTop (mkF m pc' Ls (.int z :: st)))) : Go p.tables e below s Q C S (T.setTop (mkF m pc Ls (.int x :: st))) := by
  subst hp; subst hz
  exact Go.of (fun _ q => XS.i2b X.here hx rfl (hb hby hd) rfl q) kk
theorem g_i2c (X : Stand p l e R s m args below meth c T locs cells slots) (hx : p.tables.exec = Jvm.exec) (hby : c.code = bs) {x : Int32} {z : Int32} (hd : decode bs pc = .ok (.i2c, 1)) (hp : pc + 1 = pc') (hz : x.toUInt32.toUInt16.toUInt32.toInt32 = z) (kk : Go p.tables e below s Q C S (T.setTop (mkF m pc' Ls (.int z :: st)))) : Go p.tables e below s Q C S (T.setTop (mkF m pc Ls (.int x :: st))) := by
  subst hp; subst hz
  exact Go.of (fun _ q => XS.i2c X.here hx rfl (hb hby hd) rfl q) kk
theorem g_i2s (X : Stand p l e R s m args below meth c T locs cells slots) (hx : p.tables.exec = Jvm.exec) (hby : c.code = bs) {x : Int32} {z : Int32} (hd : decode bs pc = .ok (.i2s, 1)) (hp : pc + 1 = pc') (hz : x.toInt16.toInt32 = z) (kk : Go p.tables e below s Q C S (T.setTop (mkF m pc' Ls (.int z :: st)))) : Go p.tables e below s Q C S (T.setTop (mkF m pc Ls (.int x :: st))) := by
  subst hp; subst hz
  exact Go.of (fun _ q => XS.i2s X.here hx rfl (hb hby hd) rfl q) kk
theorem g_lcmp (X : Stand p l e R s m args below meth c T locs cells slots) (hx : p.tables.exec = Jvm.exec) (hby : c.code = bs) {x y : Int64} (hd : decode bs pc = .ok (.lcmp, 1)) (hp : pc + 1 = pc')  (kk : Go p.tables e below s Q C S (T.setTop (mkF m pc' Ls (.int (lcmpW x y) :: st)))) : Go p.tables e below s Q C S (T.setTop (mkF m pc Ls (.long y :: .long x :: st))) := by
  subst hp
  exact Go.of (fun _ q => XS.lcmp X.here hx rfl (hb hby hd) rfl q) kk
theorem g_aloadN (X : Stand p l e R s m args below meth c T locs cells slots) (hx : p.tables.exec = Jvm.exec) (hby : c.code = bs) {k : Fin 4} {v : Value} (hd : decode bs pc = .ok (.aload_n k, 1)) (hp : pc + 1 = pc') (hl : Ls[k.val]? = some (.val v)) (hr : v.isRef = true) (kk : Go p.tables e below s Q C S (T.setTop (mkF m pc' Ls (v :: st)))) : Go p.tables e below s Q C S (T.setTop (mkF m pc Ls (st))) := by
  subst hp
  exact Go.of (fun _ q => XS.aloadN X.here hx rfl (hb hby hd) hl hr q) kk
theorem g_aload (X : Stand p l e R s m args below meth c T locs cells slots) (hx : p.tables.exec = Jvm.exec) (hby : c.code = bs) {k : Nat} {v : Value} (hd : decode bs pc = .ok (.aload k, 2)) (hp : pc + 2 = pc') (hl : Ls[k]? = some (.val v)) (hr : v.isRef = true) (kk : Go p.tables e below s Q C S (T.setTop (mkF m pc' Ls (v :: st)))) : Go p.tables e below s Q C S (T.setTop (mkF m pc Ls (st))) := by
  subst hp
  exact Go.of (fun _ q => XS.aload X.here hx rfl (hb hby hd) hl hr q) kk
theorem g_astoreN (X : Stand p l e R s m args below meth c T locs cells slots) (hx : p.tables.exec = Jvm.exec) (hby : c.code = bs) {k : Fin 4} {v : Value} {L' : Array Slot} (hd : decode bs pc = .ok (.astore_n k, 1)) (hp : pc + 1 = pc') (hr : v.isRef = true) (hl : storeLocals Ls k.val v = some L') (kk : Go p.tables e below s Q C S (T.setTop (mkF m pc' L' (st)))) : Go p.tables e below s Q C S (T.setTop (mkF m pc Ls (v :: st))) := by
  subst hp
  exact Go.of (fun _ q => XS.astoreN X.here hx rfl (hb hby hd) rfl hr hl q) kk
theorem g_astore (X : Stand p l e R s m args below meth c T locs cells slots) (hx : p.tables.exec = Jvm.exec) (hby : c.code = bs) {k : Nat} {v : Value} {L' : Array Slot} (hd : decode bs pc = .ok (.astore k, 2)) (hp : pc + 2 = pc') (hr : v.isRef = true) (hl : storeLocals Ls k v = some L') (kk : Go p.tables e below s Q C S (T.setTop (mkF m pc' L' (st)))) : Go p.tables e below s Q C S (T.setTop (mkF m pc Ls (v :: st))) := by
  subst hp
  exact Go.of (fun _ q => XS.astore X.here hx rfl (hb hby hd) rfl hr hl q) kk
theorem g_iconst (X : Stand p l e R s m args below meth c T locs cells slots) (hx : p.tables.exec = Jvm.exec) (hby : c.code = bs) {i : Int} {z : Int32} (hd : decode bs pc = .ok (.iconst i, 1)) (hp : pc + 1 = pc') (hz : Int32.ofInt i = z) (kk : Go p.tables e below s Q C S (T.setTop (mkF m pc' Ls (.int z :: st)))) : Go p.tables e below s Q C S (T.setTop (mkF m pc Ls (st))) := by
  subst hp; subst hz
  exact Go.of (fun _ q => XS.iconst X.here hx rfl (hb hby hd) q) kk
theorem g_bipush (X : Stand p l e R s m args below meth c T locs cells slots) (hx : p.tables.exec = Jvm.exec) (hby : c.code = bs) {i : Int} {z : Int32} (hd : decode bs pc = .ok (.bipush i, 2)) (hp : pc + 2 = pc') (hz : (Int8.ofInt i).toInt32 = z) (kk : Go p.tables e below s Q C S (T.setTop (mkF m pc' Ls (.int z :: st)))) : Go p.tables e below s Q C S (T.setTop (mkF m pc Ls (st))) := by
  subst hp; subst hz
  exact Go.of (fun _ q => XS.bipush X.here hx rfl (hb hby hd) q) kk
theorem g_sipush (X : Stand p l e R s m args below meth c T locs cells slots) (hx : p.tables.exec = Jvm.exec) (hby : c.code = bs) {i : Int} {z : Int32} (hd : decode bs pc = .ok (.sipush i, 3)) (hp : pc + 3 = pc') (hz : (Int16.ofInt i).toInt32 = z) (kk : Go p.tables e below s Q C S (T.setTop (mkF m pc' Ls (.int z :: st)))) : Go p.tables e below s Q C S (T.setTop (mkF m pc Ls (st))) := by
  subst hp; subst hz
  exact Go.of (fun _ q => XS.sipush X.here hx rfl (hb hby hd) q) kk
theorem g_aconst_null (X : Stand p l e R s m args below meth c T locs cells slots) (hx : p.tables.exec = Jvm.exec) (hby : c.code = bs)  (hd : decode bs pc = .ok (.aconst_null, 1)) (hp : pc + 1 = pc')  (kk : Go p.tables e below s Q C S (T.setTop (mkF m pc' Ls (.null :: st)))) : Go p.tables e below s Q C S (T.setTop (mkF m pc Ls (st))) := by
  subst hp
  exact Go.of (fun _ q => XS.aconstNull X.here hx rfl (hb hby hd) q) kk
theorem g_iinc (X : Stand p l e R s m args below meth c T locs cells slots) (hx : p.tables.exec = Jvm.exec) (hby : c.code = bs) {k : Nat} {i : Int} {x : Int32} {L' : Array Slot} (hd : decode bs pc = .ok (.iinc k i, 3)) (hp : pc + 3 = pc') (hl : Ls[k]? = some (.val (.int x))) (hl' : storeLocals Ls k (.int (x + Int32.ofInt i)) = some L') (kk : Go p.tables e below s Q C S (T.setTop (mkF m pc' L' (st)))) : Go p.tables e below s Q C S (T.setTop (mkF m pc Ls (st))) := by
  subst hp
  exact Go.of (fun _ q => XS.iinc X.here hx rfl (hb hby hd) hl hl' q) kk
theorem g_dup (X : Stand p l e R s m args below meth c T locs cells slots) (hx : p.tables.exec = Jvm.exec) (hby : c.code = bs) {v : Value} (hd : decode bs pc = .ok (.dup, 1)) (hp : pc + 1 = pc') (hc : v.category = 1) (kk : Go p.tables e below s Q C S (T.setTop (mkF m pc' Ls (v :: v :: st)))) : Go p.tables e below s Q C S (T.setTop (mkF m pc Ls (v :: st))) := by
  subst hp
  exact Go.of (fun _ q => XS.dup X.here hx rfl (hb hby hd) rfl hc q) kk
theorem g_pop (X : Stand p l e R s m args below meth c T locs cells slots) (hx : p.tables.exec = Jvm.exec) (hby : c.code = bs) {v : Value} (hd : decode bs pc = .ok (.pop, 1)) (hp : pc + 1 = pc') (hc : v.category = 1) (kk : Go p.tables e below s Q C S (T.setTop (mkF m pc' Ls (st)))) : Go p.tables e below s Q C S (T.setTop (mkF m pc Ls (v :: st))) := by
  subst hp
  exact Go.of (fun _ q => XS.pop X.here hx rfl (hb hby hd) rfl hc q) kk
theorem g_dup_x1 (X : Stand p l e R s m args below meth c T locs cells slots) (hx : p.tables.exec = Jvm.exec) (hby : c.code = bs) {v w : Value} (hd : decode bs pc = .ok (.dup_x1, 1)) (hp : pc + 1 = pc') (hc : v.category = 1) (hc' : w.category = 1) (kk : Go p.tables e below s Q C S (T.setTop (mkF m pc' Ls (v :: w :: v :: st)))) : Go p.tables e below s Q C S (T.setTop (mkF m pc Ls (v :: w :: st))) := by
  subst hp
  exact Go.of (fun _ q => XS.dupX1 X.here hx rfl (hb hby hd) rfl hc hc' q) kk
theorem g_dup2 (X : Stand p l e R s m args below meth c T locs cells slots) (hx : p.tables.exec = Jvm.exec) (hby : c.code = bs) {v w : Value} (hd : decode bs pc = .ok (.dup2, 1)) (hp : pc + 1 = pc') (hc : v.category = 1) (hc' : w.category = 1) (kk : Go p.tables e below s Q C S (T.setTop (mkF m pc' Ls (v :: w :: v :: w :: st)))) : Go p.tables e below s Q C S (T.setTop (mkF m pc Ls (v :: w :: st))) := by
  subst hp
  exact Go.of (fun _ q => Jvm.Free.XT.dup2 X.here hx rfl (hb hby hd) rfl hc hc' q) kk
theorem g_goto (X : Stand p l e R s m args below meth c T locs cells slots) (hx : p.tables.exec = Jvm.exec) (hby : c.code = bs) {o : Int} (hd : decode bs pc = .ok (.goto o, 3)) (h0 : 0 ≤ (pc : Int) + o) (hp : ((pc : Int) + o).toNat = pc') (kk : Go p.tables e below s Q C S (T.setTop (mkF m pc' Ls st))) : Go p.tables e below s Q C S (T.setTop (mkF m pc Ls st)) :=
  Go.of (fun _ q => XS.goto X.here hx rfl (pc0 := pc) (pc' := pc') rfl (hb hby hd) h0 hp q) kk
theorem g_ifYes (X : Stand p l e R s m args below meth c T locs cells slots) (hx : p.tables.exec = Jvm.exec) (hby : c.code = bs) {cd : ClassFile.Cond} {x : Int32} {o : Int} (hd : decode bs pc = .ok (.ifCond cd o, 3)) (hc : if_icmp.holds cd x 0 = true) (h0 : 0 ≤ (pc : Int) + o) (hp : ((pc : Int) + o).toNat = pc') (kk : Go p.tables e below s Q C S (T.setTop (mkF m pc' Ls st))) : Go p.tables e below s Q C S (T.setTop (mkF m pc Ls (.int x :: st))) :=
  Go.of (fun _ q => XS.ifYes X.here hx rfl (pc0 := pc) (pc' := pc') rfl (hb hby hd) rfl ((if0 _ _).trans hc) h0 hp q) kk
theorem g_ifNo (X : Stand p l e R s m args below meth c T locs cells slots) (hx : p.tables.exec = Jvm.exec) (hby : c.code = bs) {cd : ClassFile.Cond} {x : Int32} {o : Int} (hd : decode bs pc = .ok (.ifCond cd o, 3)) (hc : if_icmp.holds cd x 0 = false) (hp : pc + 3 = pc') (kk : Go p.tables e below s Q C S (T.setTop (mkF m pc' Ls st))) : Go p.tables e below s Q C S (T.setTop (mkF m pc Ls (.int x :: st))) := by
  subst hp
  exact Go.of (fun _ q => XS.ifNo X.here hx rfl (hb hby hd) rfl ((if0 _ _).trans hc) q) kk
theorem g_icmpYes (X : Stand p l e R s m args below meth c T locs cells slots) (hx : p.tables.exec = Jvm.exec) (hby : c.code = bs) {cd : ClassFile.Cond} {x y : Int32} {o : Int} (hd : decode bs pc = .ok (.if_icmp cd o, 3)) (hc : if_icmp.holds cd x y = true) (h0 : 0 ≤ (pc : Int) + o) (hp : ((pc : Int) + o).toNat = pc') (kk : Go p.tables e below s Q C S (T.setTop (mkF m pc' Ls st))) : Go p.tables e below s Q C S (T.setTop (mkF m pc Ls (.int y :: .int x :: st))) :=
  Go.of (fun _ q => XS.icmpYes X.here hx rfl (pc0 := pc) (pc' := pc') rfl (hb hby hd) rfl hc h0 hp q) kk
theorem g_icmpNo (X : Stand p l e R s m args below meth c T locs cells slots) (hx : p.tables.exec = Jvm.exec) (hby : c.code = bs) {cd : ClassFile.Cond} {x y : Int32} {o : Int} (hd : decode bs pc = .ok (.if_icmp cd o, 3)) (hc : if_icmp.holds cd x y = false) (hp : pc + 3 = pc') (kk : Go p.tables e below s Q C S (T.setTop (mkF m pc' Ls st))) : Go p.tables e below s Q C S (T.setTop (mkF m pc Ls (.int y :: .int x :: st))) := by
  subst hp
  exact Go.of (fun _ q => XS.icmpNo X.here hx rfl (hb hby hd) rfl hc q) kk
theorem g_ldcI (X : Stand p l e R s m args below meth c T locs cells slots) (hx : p.tables.exec = Jvm.exec) (hby : c.code = bs) (hZ : Z.Warmed39 s.vm) (hown : s.vm.findClass own = some m.cls) {i : Nat} {z : Int32} (w : (Cond.constant own i z).before a0 Z = true) (hd : decode bs pc = .ok (.ldc i, 2)) (hp : pc + 2 = pc') (kk : Go p.tables e below s Q C S (T.setTop (mkF m pc' Ls (.int z :: st)))) : Go p.tables e below s Q C S (T.setTop (mkF m pc Ls st)) := by
  subst hp
  exact Go.of (fun _ q => X.ldcInt hx hown (mvT hZ w) (g := mkF m pc Ls st) rfl (hb hby hd) _ q) kk
theorem g_ldcwI (X : Stand p l e R s m args below meth c T locs cells slots) (hx : p.tables.exec = Jvm.exec) (hby : c.code = bs) (hZ : Z.Warmed39 s.vm) (hown : s.vm.findClass own = some m.cls) {i : Nat} {z : Int32} (w : (Cond.constant own i z).before a0 Z = true) (hd : decode bs pc = .ok (.ldc_w i, 3)) (hp : pc + 3 = pc') (kk : Go p.tables e below s Q C S (T.setTop (mkF m pc' Ls (.int z :: st)))) : Go p.tables e below s Q C S (T.setTop (mkF m pc Ls st)) := by
  subst hp
  exact Go.of (fun _ q => X.ldcwInt hx hown (mvT hZ w) (g := mkF m pc Ls st) rfl (hb hby hd) _ q) kk
theorem g_ldcL (X : Stand p l e R s m args below meth c T locs cells slots) (hx : p.tables.exec = Jvm.exec) (hby : c.code = bs) (hZ : Z.Warmed39 s.vm) (hown : s.vm.findClass own = some m.cls) {i : Nat} {z : Int64} (w : (Cond.constantLong own i z).before a0 Z = true) (hd : decode bs pc = .ok (.ldc2_w i, 3)) (hp : pc + 3 = pc') (kk : Go p.tables e below s Q C S (T.setTop (mkF m pc' Ls (.long z :: st)))) : Go p.tables e below s Q C S (T.setTop (mkF m pc Ls st)) := by
  subst hp
  exact Go.of (fun _ q => X.ldc2Long hx hown (mvT hZ w) (g := mkF m pc Ls st) rfl (hb hby hd) _ q) kk
theorem g_ldcD (X : Stand p l e R s m args below meth c T locs cells slots) (hx : p.tables.exec = Jvm.exec) (hby : c.code = bs) (hZ : Z.Warmed39 s.vm) (hown : s.vm.findClass own = some m.cls) {i : Nat} {z : UInt64} (w : (Cond.constantDouble own i z).before a0 Z = true) (hd : decode bs pc = .ok (.ldc2_w i, 3)) (hp : pc + 3 = pc') (kk : Go p.tables e below s Q C S (T.setTop (mkF m pc' Ls (.double z :: st)))) : Go p.tables e below s Q C S (T.setTop (mkF m pc Ls st)) := by
  subst hp
  exact Go.of (fun _ q => X.ldc2DoubleC hx hown (mvT hZ w) (g := mkF m pc Ls st) rfl (hb hby hd) _ q) kk
theorem g_getf (X : Stand p l e R s m args below meth c T locs cells slots) (hx : p.tables.exec = Jvm.exec) (hby : c.code = bs) (hZ : Z.Warmed39 s.vm) {R0 O n d host : String} {i : Nat} (hown : s.vm.findClass own = some m.cls) (w : (Cond.fieldLink own i R0 n d).before a0 Z = true ∨ (Cond.fieldLinkNest own i R0 n d host).before a0 Z = true) (via : Via Z R0 O n d) (eT : T.heap = h) {a : Addr} {v : Value} (F : Fld Z h a O n d v) (hd : decode bs pc = .ok (.getfield i, 3)) (hp : pc + 3 = pc') (kk : ∀ T', Stand p l e R s m args below meth c T' locs cells slots → T'.heap = h → Go p.tables e below s Q C S (T'.setTop (mkF m pc' Ls (v :: st)))) : Go p.tables e below s Q C S (T.setTop (mkF m pc Ls (.ref a :: st))) := by
  subst hp
  obtain ⟨T', X', e', q⟩ := getF X hx hZ hown w via eT F (g := mkF m pc Ls (.ref a :: st)) rfl rfl (hb hby hd)
  exact Go.of q (kk T' X' e')
theorem g_putf (X : Stand p l e R s m args below meth c T locs cells slots) (hx : p.tables.exec = Jvm.exec) (hby : c.code = bs) (hZ : Z.Warmed39 s.vm) {R0 O n d host : String} {i : Nat} (hown : s.vm.findClass own = some m.cls) (w : (Cond.fieldLink own i R0 n d).before a0 Z = true ∨ (Cond.fieldLinkNest own i R0 n d host).before a0 Z = true) (via : Via Z R0 O n d) (eT : T.heap = h) {a : Addr} {v old : Value} {K : String} {kk' : Nat} {ty : FieldType} (F : Fld Z h a O n d old) (E : Exa Z h a K) (L : (Cond.lays K O n d).before a0 Z = true ∨ ((Cond.laysFinal K O n d).before a0 Z = true ∧ own = O ∧ meth.name = "<init>")) (wi : (Cond.instantiable K kk').before a0 Z = true) (hty : parseFieldDescriptor d = some ty) (hn : narrow ty v = v) (hf : fits ty v = true) (hd : decode bs pc = .ok (.putfield i, 3)) (hp : pc + 3 = pc')
    (kk : ∀ T' h', Stand p l e R s m args below meth c T' (locs ++ [⟨a, Jvm.RoadKit.slotOf Z O n d⟩]) cells slots → T'.heap = h' → Wr h h' a (Jvm.RoadKit.slotOf Z O n d) v → Fld Z h' a O n d v → Go p.tables e below s Q C S (T'.setTop (mkF m pc' Ls st))) : Go p.tables e below s Q C S (T.setTop (mkF m pc Ls (v :: .ref a :: st))) := by
  subst hp
  obtain ⟨T', h', X', e', W, q⟩ := putF X hx hZ hown w via eT F E L wi hty hn hf (g := mkF m pc Ls (v :: .ref a :: st)) rfl rfl (hb hby hd)
  exact Go.of q (kk T' h' X' e' W (F.same W))
theorem g_new (X : Stand p l e R s m args below meth c T locs cells slots) (hx : p.tables.exec = Jvm.exec) (hby : c.code = bs) (hZ : Z.Warmed39 s.vm) {K : String} {i n : Nat} (hown : s.vm.findClass own = some m.cls) (w : (Cond.classLink own i K).before a0 Z = true) (wi : (Cond.instantiable K n).before a0 Z = true) (wz : (Cond.initialized K).before a0 Z = true) (eT : T.heap = h) (hd : decode bs pc = .ok (.new i, 3)) (hp : pc + 3 = pc') (hc : cells + 1 ≤ R.cells) (hl : slots + n ≤ R.slots)
    (kk : ∀ T' h' b, Stand p l e R s m args below meth c T' locs (cells + 1) (slots + n) → T'.heap = h' → Ext h h' → b = h.size → Exa Z h' b K → (∀ {O nm d : String} {ty : FieldType}, Laid Z a0 K O nm d → parseFieldDescriptor d = some ty → Fld Z h' b O nm d (defaultValue ty)) → Go p.tables e below s Q C S (T'.setTop (mkF m pc' Ls (.ref b :: st)))) : Go p.tables e below s Q C S (T.setTop (mkF m pc Ls st)) := by
  subst hp
  obtain ⟨T', h', X', e', E, A, D, -, q⟩ := newO X hx hZ hown w wi wz eT (g := mkF m pc Ls st) rfl (hb hby hd) hc hl
  exact Go.of q (kk T' h' h.size X' e' E rfl A D)
theorem g_init (X : Stand p l e R s m args below meth c T locs cells slots) (hx : p.tables.exec = Jvm.exec) (hby : c.code = bs) (hZ : Z.Warmed39 s.vm) {i : Nat} (hown : s.vm.findClass own = some m.cls) (w1 : (Cond.methodLink own i Lib.objectInit).before a0 Z = true) (w2 : (Cond.instanceMethod Lib.objectInit).before a0 Z = true) (w3 : (Cond.code Lib.objectInit ⟨#[0xb1]⟩ 1 none).before a0 Z = true) (eT : T.heap = h) {a : Addr} {W : Nat} (hsz : Ls.size = c.maxLocals) (hd : decode bs pc = .ok (.invokespecial i, 3)) (hp : pc + 3 = pc') (hf : 1 ≤ R.frames) (hW : (st.map fun v => v.category).sum = W) (hl : W + 12 ≤ R.locals) (kk : ∀ T', Stand p l e R s m args below meth c T' locs cells slots → T'.heap = h → Go p.tables e below s Q C S (T'.setTop (mkF m pc' Ls st))) : Go p.tables e below s Q C S (T.setTop (mkF m pc Ls (.ref a :: st))) := by
  subst hp
  obtain ⟨T', X', e', q⟩ := initO X hx hZ hown w1 w2 w3 eT (g := mkF m pc Ls (.ref a :: st)) rfl hsz rfl (hb hby hd) hf (W := W) (by show 2 * 0 + _ ≤ _; rw [hW]; omega) hl
  exact Go.of q (kk T' X' e')
end Steps1
end Jvm.OwnKit
namespace Jvm.Pilot.@@N@@
open Jvm Jvm.ClassFile Sem Op Lib Jvm.Free Jvm.Stand Jvm.LawKit Jvm.RoadKit Jvm.OwnKit Bundle Jvm.Pilot.@@N@@.Jvm.D
theorem wi {a0 : Array Value} {Z : State} (hw : ∀ d ∈ tables_1, d.before a0 Z = true) {d : Jvm.Cond} (i : Nat) (h : tables_1[i]? = some d) : d.before a0 Z = true := hw d (List.mem_of_getElem? h)
def own_nb (x : Int32) : Int32 := x.toInt8.toInt32
theorem own_m255 : ∀ j : Nat, (h : j < 32) → (255#32)[j] = decide (j < 8) := by decide
theorem own_m255L : ∀ j : Nat, (h : j < 64) → (255#64)[j] = decide (j < 8) := by decide
theorem own_nb_bv (x : Int32) : (own_nb x &&& (255 : Int32)).toBitVec = x.toBitVec &&& 255#32 := by
  show (((x.toBitVec.signExtend 8)).signExtend 32) &&& 255#32 = _
  have e8 : x.toBitVec.signExtend 8 = x.toBitVec.setWidth 8 := BitVec.signExtend_eq_setWidth_of_le _ (by decide)
  rw [e8]
  generalize x.toBitVec = y
  ext i hi
  simp only [BitVec.getElem_and, own_m255 i hi, BitVec.getElem_signExtend, BitVec.getElem_setWidth]
  by_cases h : i < 8 <;> simp [h, BitVec.getLsbD_eq_getElem hi]
def own_st (acc : Int64) (b : Int32) : Int64 := (acc <<< ((8 : Int32) &&& 0x3f).toInt64) ||| ((b &&& (255 : Int32)).toInt64)
/-- the low byte of a long -/
theorem own_low (z : Int64) : ((own_nb (own_nb z.toInt32)) &&& (255 : Int32)).toInt64.toBitVec = z.toBitVec &&& 255#64 := by
  have h1 : ((own_nb (own_nb z.toInt32)) &&& (255 : Int32)).toBitVec = z.toBitVec.setWidth 32 &&& 255#32 := by
    rw [own_nb_bv]
    have h2 := own_nb_bv z.toInt32
    have h3 : ((own_nb z.toInt32) &&& (255 : Int32)).toBitVec = (own_nb z.toInt32).toBitVec &&& 255#32 := rfl
    rw [← h3, h2]
    have h4 : z.toInt32.toBitVec = z.toBitVec.setWidth 32 := BitVec.signExtend_eq_setWidth_of_le _ (by decide)
    rw [h4]
  show BitVec.signExtend 64 ((own_nb (own_nb z.toInt32)) &&& (255 : Int32)).toBitVec = _
  rw [h1]
  generalize z.toBitVec = y
  ext i hi
  simp only [BitVec.getElem_signExtend, BitVec.getElem_and, own_m255L i hi]
  by_cases h : i < 8
  · have : i < 32 := by omega
    simp [h, this, own_m255 i this, BitVec.getLsbD_eq_getElem hi]
  · by_cases h5 : i < 32
    · simp [h, h5, own_m255 i h5]
    · have : (BitVec.setWidth 32 y &&& 255#32).msb = false := by
        rw [BitVec.msb_and]; simp; intro _; decide
      simp [h, h5, this]
theorem own_step (q acc : Int64) (s : Nat) (z : Int64) (hz : z.toBitVec = q.toBitVec >>> s) (h : acc.toBitVec = q.toBitVec >>> (s + 8)) : (own_st acc (own_nb (own_nb z.toInt32))).toBitVec = q.toBitVec >>> s := by
  show (acc.toBitVec <<< 8) ||| ((own_nb (own_nb z.toInt32)) &&& (255 : Int32)).toInt64.toBitVec = _
  rw [own_low, hz, h]
  generalize q.toBitVec = y
  ext i hi
  simp only [BitVec.getElem_or, BitVec.getElem_shiftLeft, BitVec.getElem_and, own_m255L i hi, BitVec.getElem_ushiftRight]
  by_cases h1 : i < 8
  · simp [h1]
  · have e : s + 8 + (i - 8) = s + i := by omega
    simp [h1, e]
def own_sh (q : Int64) (k : Int32) : Int64 := (q.toUInt64 >>> (k &&& 0x3f).toInt64.toUInt64).toInt64
def own_dec8 (a b c d e f g h : Int32) : Int64 := own_st (own_st (own_st (own_st (own_st (own_st (own_st (own_st 0 a) b) c) d) e) f) g) h
theorem own_dec_eq (q : Int64) : own_dec8 (own_nb (own_nb (own_sh q 56).toInt32)) (own_nb (own_nb (own_sh q 48).toInt32)) (own_nb (own_nb (own_sh q 40).toInt32)) (own_nb (own_nb (own_sh q 32).toInt32)) (own_nb (own_nb (own_sh q 24).toInt32)) (own_nb (own_nb (own_sh q 16).toInt32)) (own_nb (own_nb (own_sh q 8).toInt32)) (own_nb (own_nb q.toInt32)) = q := by
  apply Int64.toBitVec_inj.mp
  unfold own_dec8
  have h0 : (0 : Int64).toBitVec = q.toBitVec >>> (56 + 8) := by
    ext i hi; simp
  have h1 := own_step q _ 56 (own_sh q 56) rfl h0
  have h2 := own_step q _ 48 (own_sh q 48) rfl h1
  have h3 := own_step q _ 40 (own_sh q 40) rfl h2
  have h4 := own_step q _ 32 (own_sh q 32) rfl h3
  have h5 := own_step q _ 24 (own_sh q 24) rfl h4
  have h6 := own_step q _ 16 (own_sh q 16) rfl h5
  have h7 := own_step q _ 8 (own_sh q 8) rfl h6
  have h8 := own_step q _ 0 q (by simp) h7
  rw [h8]; simp
theorem own_sh0 (q : Int64) : own_sh q 0 = q := by
  apply Int64.toBitVec_inj.mp
  show q.toBitVec >>> 0 = _
  simp
theorem own_top (q : Int64) : own_nb (own_nb (own_sh q 56).toInt32) = (q >>> ((56 : Int32) &&& 0x3f).toInt64).toInt32.toInt8.toInt32 := by
  apply Int32.toBitVec_inj.mp
  show BitVec.signExtend 32 (BitVec.signExtend 8 (BitVec.signExtend 32 (BitVec.signExtend 8 (BitVec.signExtend 32 (q.toBitVec >>> 56))))) = BitVec.signExtend 32 (BitVec.signExtend 8 (BitVec.signExtend 32 (q.toBitVec.sshiftRight 56)))
  generalize q.toBitVec = y
  have e1 : ∀ z : BitVec 64, BitVec.signExtend 8 (BitVec.signExtend 32 z) = z.setWidth 8 := fun z => by
    rw [BitVec.signExtend_eq_setWidth_of_le _ (by decide), BitVec.signExtend_eq_setWidth_of_le _ (by decide)]
    ext i hi; simp
  have e2 : ∀ z : BitVec 8, BitVec.signExtend 8 (BitVec.signExtend 32 z) = z := fun z => by
    rw [BitVec.signExtend_eq_setWidth_of_le _ (by decide)]
    ext i hi; have : i < 32 := by omega
    simp [BitVec.getElem_signExtend, hi, this]
  rw [e2, e1, e1]
  congr 1
  ext i hi
  have h1 : i < 64 := by omega
  have h2 : 56 + i < 64 := by omega
  simp [BitVec.getElem_sshiftRight, BitVec.getLsbD_sshiftRight, h1, h2, hi]
theorem d1_0 : decode prog_51_method_30_code 0 = .ok (.lconst 0, 1) := by decide +kernel
theorem d1_1 : decode prog_51_method_30_code 1 = .ok (.lstore_n 2, 1) := by decide +kernel
theorem d1_2 : decode prog_51_method_30_code 2 = .ok (.iconst 0, 1) := by decide +kernel
theorem d1_3 : decode prog_51_method_30_code 3 = .ok (.istore 4, 2) := by decide +kernel
theorem d1_5 : decode prog_51_method_30_code 5 = .ok (.iload 4, 2) := by decide +kernel
theorem d1_7 : decode prog_51_method_30_code 7 = .ok (.bipush 8, 2) := by decide +kernel
theorem d1_9 : decode prog_51_method_30_code 9 = .ok (.if_icmp .ge 26, 3) := by decide +kernel
theorem d1_12 : decode prog_51_method_30_code 12 = .ok (.lload_n 2, 1) := by decide +kernel
theorem d1_13 : decode prog_51_method_30_code 13 = .ok (.bipush 8, 2) := by decide +kernel
theorem d1_15 : decode prog_51_method_30_code 15 = .ok (.lshl, 1) := by decide +kernel
theorem d1_16 : decode prog_51_method_30_code 16 = .ok (.aload_n 0, 1) := by decide +kernel
theorem d1_17 : decode prog_51_method_30_code 17 = .ok (.iload_n 1, 1) := by decide +kernel
theorem d1_18 : decode prog_51_method_30_code 18 = .ok (.iload 4, 2) := by decide +kernel
theorem d1_20 : decode prog_51_method_30_code 20 = .ok (.iadd, 1) := by decide +kernel
theorem d1_21 : decode prog_51_method_30_code 21 = .ok (.baload, 1) := by decide +kernel
theorem d1_22 : decode prog_51_method_30_code 22 = .ok (.sipush 255, 3) := by decide +kernel
theorem d1_25 : decode prog_51_method_30_code 25 = .ok (.iand, 1) := by decide +kernel
theorem d1_26 : decode prog_51_method_30_code 26 = .ok (.i2l, 1) := by decide +kernel
theorem d1_27 : decode prog_51_method_30_code 27 = .ok (.lor, 1) := by decide +kernel
theorem d1_28 : decode prog_51_method_30_code 28 = .ok (.lstore_n 2, 1) := by decide +kernel
theorem d1_29 : decode prog_51_method_30_code 29 = .ok (.iinc 4 1, 3) := by decide +kernel
theorem d1_32 : decode prog_51_method_30_code 32 = .ok (.goto (-27), 3) := by decide +kernel
theorem d1_35 : decode prog_51_method_30_code 35 = .ok (.lload_n 2, 1) := by decide +kernel
theorem d1_36 : decode prog_51_method_30_code 36 = .ok (.lreturn, 1) := by decide +kernel
theorem ef_rm1 (m : MethodId) (x0 : Addr) (x1 : Int32) : entryFrame m #[(.ref x0), (.int x1)] 5 = mkF m 0 #[.val (.ref x0), .val (.int x1), .unset, .unset, .unset] [] := by first | (simp [entryFrame, mkF, argsToLocals, Value.category]; done) | rfl
theorem pn_com_example_interval_interval_core_StoreFormat : plainName "com/example/interval/interval/core/StoreFormat" = true := by first | (simp [plainName, overriddenIn]; done) | decide +kernel
set_option maxRecDepth 65536 in
set_option maxHeartbeats 40000000 in
theorem rm1 (l : Launch) (Z : State) (a0 : Array Value) (hw : ∀ d ∈ tables_1, d.before a0 Z = true) (x1 : Addr) (i1 : Int32) (n1 : Nat) (g1 : Nat → Int32) (k1 : Nat) (h0 : Heap) (n0 : Nat) (Z0 : n0 ≤ h0.size) (P0 : ArF Z h0 x1 .byte n1 (fun i => .int (g1 i))) (hk : i1.toInt = (k1 : Int)) (hn : k1 + 7 < n1) :
    Con l Z (⟨"com/example/interval/interval/core/StoreFormat", "decodeLong", "([BI)J"⟩ : MethodName) prog_51_method_30_code 5 (some .long) ({ frames := 0, cells := 0, slots := 0, locals := 0 } : Room) #[(.ref x1), (.int i1)] h0 (fun v h L => v = some (.long (own_dec8 (g1 (k1 + 0)) (g1 (k1 + 1)) (g1 (k1 + 2)) (g1 (k1 + 3)) (g1 (k1 + 4)) (g1 (k1 + 5)) (g1 (k1 + 6)) (g1 (k1 + 7)))) ∧ Fr n0 L ∧ h = h0) := by
  refine meet (y := (⟨"com/example/interval/interval/core/StoreFormat", "decodeLong", "([BI)J"⟩ : MethodName)) (Q := fun v h L => v = some (.long (own_dec8 (g1 (k1 + 0)) (g1 (k1 + 1)) (g1 (k1 + 2)) (g1 (k1 + 3)) (g1 (k1 + 4)) (g1 (k1 + 5)) (g1 (k1 + 6)) (g1 (k1 + 7)))) ∧ Fr n0 L ∧ h = h0) (plainFor_of_name pn_com_example_interval_interval_core_StoreFormat) (fun m => ef_rm1 m x1 i1) ?_
  intro p e s m below meth c T0 hx hby hml hZ hown hnm hret hlk X0 e0
  have N0 := Fr.nil n0
  have hl := P0.len
  refine Go.of (fun _ k => XS.lconst X0.here hx rfl (hb hby d1_0) k) ?_
  show Go p.tables e below s _ _ _ (T0.setTop (mkF m 1 #[.val (.ref x1), .val (.int i1), .unset, .unset, .unset] [(.long (0 : Int64))]))
  refine g_lstoreN X0 hx hby d1_1 (pc' := 2) rfl (L' := #[.val (.ref x1), .val (.int i1), .val (.long (0 : Int64)), .second, .unset]) rfl ?_
  refine g_iconst X0 hx hby d1_2 (pc' := 3) rfl (z := (0 : Int32)) rfl ?_
  refine g_istore X0 hx hby d1_3 (pc' := 5) rfl (L' := #[.val (.ref x1), .val (.int i1), .val (.long (0 : Int64)), .second, .val (.int (0 : Int32))]) rfl ?_
  refine g_iload X0 hx hby d1_5 (pc' := 7) rfl rfl ?_
  refine g_bipush X0 hx hby d1_7 (pc' := 9) rfl (z := (8 : Int32)) rfl ?_
  have hc9 : (0 : Int) < (8 : Int) := by decide
  refine g_icmpNo X0 hx hby d1_9 (pc' := 12) (tlt (show (0 : Int32) < (8 : Int32) from Int32.lt_iff_toInt_lt.mpr hc9)).2.1 rfl ?_
  refine g_lloadN X0 hx hby d1_12 (pc' := 13) rfl rfl ?_
  refine g_bipush X0 hx hby d1_13 (pc' := 15) rfl (z := (8 : Int32)) rfl ?_
  refine g_lshl X0 hx hby d1_15 (pc' := 16) rfl rfl ?_
  refine g_aloadN X0 hx hby d1_16 (pc' := 17) rfl rfl rfl ?_
  refine g_iloadN X0 hx hby d1_17 (pc' := 18) rfl rfl ?_
  refine g_iload X0 hx hby d1_18 (pc' := 20) rfl rfl ?_
  refine g_iadd X0 hx hby d1_20 (pc' := 21) rfl rfl ?_
  refine Go.baload X0 hx hZ e0 P0 (k := (k1 + 0)) (by have : ((i1 + (0 : Int32)).toInt - (i1.toInt + (0))) % 4294967296 = 0 := c_iadd _ _; have : -2147483648 ≤ (i1 + (0 : Int32)).toInt ∧ (i1 + (0 : Int32)).toInt < 2147483648 := rng32 _; have : -2147483648 ≤ i1.toInt ∧ i1.toInt < 2147483648 := rng32 _; omega) (by omega) (hb hby d1_21) ?_
  show Go p.tables e below s _ _ _ (T0.setTop (mkF m 22 #[.val (.ref x1), .val (.int i1), .val (.long (0 : Int64)), .second, .val (.int (0 : Int32))] [(.int (g1 (k1 + 0))), (.long ((0 : Int64) <<< ((8 : Int32) &&& 0x3f).toInt64))]))
  refine g_sipush X0 hx hby d1_22 (pc' := 25) rfl (z := (255 : Int32)) rfl ?_
  refine g_iand X0 hx hby d1_25 (pc' := 26) rfl rfl ?_
  refine g_i2l X0 hx hby d1_26 (pc' := 27) rfl rfl ?_
  refine g_lor X0 hx hby d1_27 (pc' := 28) rfl rfl ?_
  refine g_lstoreN X0 hx hby d1_28 (pc' := 29) rfl (L' := #[.val (.ref x1), .val (.int i1), .val (.long (((0 : Int64) <<< ((8 : Int32) &&& 0x3f).toInt64) ||| (((g1 (k1 + 0)) &&& (255 : Int32)).toInt64))), .second, .val (.int (0 : Int32))]) rfl ?_
  refine g_iinc X0 hx hby d1_29 (pc' := 32) rfl rfl (L' := #[.val (.ref x1), .val (.int i1), .val (.long (((0 : Int64) <<< ((8 : Int32) &&& 0x3f).toInt64) ||| (((g1 (k1 + 0)) &&& (255 : Int32)).toInt64))), .second, .val (.int (1 : Int32))]) rfl ?_
  refine g_goto X0 hx hby d1_32 (pc' := 5) (by decide) (by decide) ?_
  refine g_iload X0 hx hby d1_5 (pc' := 7) rfl rfl ?_
  refine g_bipush X0 hx hby d1_7 (pc' := 9) rfl (z := (8 : Int32)) rfl ?_
  have hc9 : (1 : Int) < (8 : Int) := by decide
  refine g_icmpNo X0 hx hby d1_9 (pc' := 12) (tlt (show (1 : Int32) < (8 : Int32) from Int32.lt_iff_toInt_lt.mpr hc9)).2.1 rfl ?_
  refine g_lloadN X0 hx hby d1_12 (pc' := 13) rfl rfl ?_
  refine g_bipush X0 hx hby d1_13 (pc' := 15) rfl (z := (8 : Int32)) rfl ?_
  refine g_lshl X0 hx hby d1_15 (pc' := 16) rfl rfl ?_
  refine g_aloadN X0 hx hby d1_16 (pc' := 17) rfl rfl rfl ?_
  refine g_iloadN X0 hx hby d1_17 (pc' := 18) rfl rfl ?_
  refine g_iload X0 hx hby d1_18 (pc' := 20) rfl rfl ?_
  refine g_iadd X0 hx hby d1_20 (pc' := 21) rfl rfl ?_
  refine Go.baload X0 hx hZ e0 P0 (k := (k1 + 1)) (by have : ((i1 + (1 : Int32)).toInt - (i1.toInt + (1))) % 4294967296 = 0 := c_iadd _ _; have : -2147483648 ≤ (i1 + (1 : Int32)).toInt ∧ (i1 + (1 : Int32)).toInt < 2147483648 := rng32 _; have : -2147483648 ≤ i1.toInt ∧ i1.toInt < 2147483648 := rng32 _; omega) (by omega) (hb hby d1_21) ?_
  show Go p.tables e below s _ _ _ (T0.setTop (mkF m 22 #[.val (.ref x1), .val (.int i1), .val (.long (((0 : Int64) <<< ((8 : Int32) &&& 0x3f).toInt64) ||| (((g1 (k1 + 0)) &&& (255 : Int32)).toInt64))), .second, .val (.int (1 : Int32))] [(.int (g1 (k1 + 1))), (.long ((((0 : Int64) <<< ((8 : Int32) &&& 0x3f).toInt64) ||| (((g1 (k1 + 0)) &&& (255 : Int32)).toInt64)) <<< ((8 : Int32) &&& 0x3f).toInt64))]))
  refine g_sipush X0 hx hby d1_22 (pc' := 25) rfl (z := (255 : Int32)) rfl ?_
  refine g_iand X0 hx hby d1_25 (pc' := 26) rfl rfl ?_
  refine g_i2l X0 hx hby d1_26 (pc' := 27) rfl rfl ?_
  refine g_lor X0 hx hby d1_27 (pc' := 28) rfl rfl ?_
  refine g_lstoreN X0 hx hby d1_28 (pc' := 29) rfl (L' := #[.val (.ref x1), .val (.int i1), .val (.long (((((0 : Int64) <<< ((8 : Int32) &&& 0x3f).toInt64) ||| (((g1 (k1 + 0)) &&& (255 : Int32)).toInt64)) <<< ((8 : Int32) &&& 0x3f).toInt64) ||| (((g1 (k1 + 1)) &&& (255 : Int32)).toInt64))), .second, .val (.int (1 : Int32))]) rfl ?_
  refine g_iinc X0 hx hby d1_29 (pc' := 32) rfl rfl (L' := #[.val (.ref x1), .val (.int i1), .val (.long (((((0 : Int64) <<< ((8 : Int32) &&& 0x3f).toInt64) ||| (((g1 (k1 + 0)) &&& (255 : Int32)).toInt64)) <<< ((8 : Int32) &&& 0x3f).toInt64) ||| (((g1 (k1 + 1)) &&& (255 : Int32)).toInt64))), .second, .val (.int (2 : Int32))]) rfl ?_
  refine g_goto X0 hx hby d1_32 (pc' := 5) (by decide) (by decide) ?_
  refine g_iload X0 hx hby d1_5 (pc' := 7) rfl rfl ?_
  refine g_bipush X0 hx hby d1_7 (pc' := 9) rfl (z := (8 : Int32)) rfl ?_
  have hc9 : (2 : Int) < (8 : Int) := by decide
  refine g_icmpNo X0 hx hby d1_9 (pc' := 12) (tlt (show (2 : Int32) < (8 : Int32) from Int32.lt_iff_toInt_lt.mpr hc9)).2.1 rfl ?_
  refine g_lloadN X0 hx hby d1_12 (pc' := 13) rfl rfl ?_
  refine g_bipush X0 hx hby d1_13 (pc' := 15) rfl (z := (8 : Int32)) rfl ?_
  refine g_lshl X0 hx hby d1_15 (pc' := 16) rfl rfl ?_
  refine g_aloadN X0 hx hby d1_16 (pc' := 17) rfl rfl rfl ?_
  refine g_iloadN X0 hx hby d1_17 (pc' := 18) rfl rfl ?_
  refine g_iload X0 hx hby d1_18 (pc' := 20) rfl rfl ?_
  refine g_iadd X0 hx hby d1_20 (pc' := 21) rfl rfl ?_
  refine Go.baload X0 hx hZ e0 P0 (k := (k1 + 2)) (by have : ((i1 + (2 : Int32)).toInt - (i1.toInt + (2))) % 4294967296 = 0 := c_iadd _ _; have : -2147483648 ≤ (i1 + (2 : Int32)).toInt ∧ (i1 + (2 : Int32)).toInt < 2147483648 := rng32 _; have : -2147483648 ≤ i1.toInt ∧ i1.toInt < 2147483648 := rng32 _; omega) (by omega) (hb hby d1_21) ?_
  show Go p.tables e below s _ _ _ (T0.setTop (mkF m 22 #[.val (.ref x1), .val (.int i1), .val (.long (((((0 : Int64) <<< ((8 : Int32) &&& 0x3f).toInt64) ||| (((g1 (k1 + 0)) &&& (255 : Int32)).toInt64)) <<< ((8 : Int32) &&& 0x3f).toInt64) ||| (((g1 (k1 + 1)) &&& (255 : Int32)).toInt64))), .second, .val (.int (2 : Int32))] [(.int (g1 (k1 + 2))), (.long ((((((0 : Int64) <<< ((8 : Int32) &&& 0x3f).toInt64) ||| (((g1 (k1 + 0)) &&& (255 : Int32)).toInt64)) <<< ((8 : Int32) &&& 0x3f).toInt64) ||| (((g1 (k1 + 1)) &&& (255 : Int32)).toInt64)) <<< ((8 : Int32) &&& 0x3f).toInt64))]))
  refine g_sipush X0 hx hby d1_22 (pc' := 25) rfl (z := (255 : Int32)) rfl ?_
  refine g_iand X0 hx hby d1_25 (pc' := 26) rfl rfl ?_
  refine g_i2l X0 hx hby d1_26 (pc' := 27) rfl rfl ?_
  refine g_lor X0 hx hby d1_27 (pc' := 28) rfl rfl ?_
  refine g_lstoreN X0 hx hby d1_28 (pc' := 29) rfl (L' := #[.val (.ref x1), .val (.int i1), .val (.long (((((((0 : Int64) <<< ((8 : Int32) &&& 0x3f).toInt64) ||| (((g1 (k1 + 0)) &&& (255 : Int32)).toInt64)) <<< ((8 : Int32) &&& 0x3f).toInt64) ||| (((g1 (k1 + 1)) &&& (255 : Int32)).toInt64)) <<< ((8 : Int32) &&& 0x3f).toInt64) ||| (((g1 (k1 + 2)) &&& (255 : Int32)).toInt64))), .second, .val (.int (2 : Int32))]) rfl ?_
  refine g_iinc X0 hx hby d1_29 (pc' := 32) rfl rfl (L' := #[.val (.ref x1), .val (.int i1), .val (.long (((((((0 : Int64) <<< ((8 : Int32) &&& 0x3f).toInt64) ||| (((g1 (k1 + 0)) &&& (255 : Int32)).toInt64)) <<< ((8 : Int32) &&& 0x3f).toInt64) ||| (((g1 (k1 + 1)) &&& (255 : Int32)).toInt64)) <<< ((8 : Int32) &&& 0x3f).toInt64) ||| (((g1 (k1 + 2)) &&& (255 : Int32)).toInt64))), .second, .val (.int (3 : Int32))]) rfl ?_
  refine g_goto X0 hx hby d1_32 (pc' := 5) (by decide) (by decide) ?_
  refine g_iload X0 hx hby d1_5 (pc' := 7) rfl rfl ?_
  refine g_bipush X0 hx hby d1_7 (pc' := 9) rfl (z := (8 : Int32)) rfl ?_
  have hc9 : (3 : Int) < (8 : Int) := by decide
  refine g_icmpNo X0 hx hby d1_9 (pc' := 12) (tlt (show (3 : Int32) < (8 : Int32) from Int32.lt_iff_toInt_lt.mpr hc9)).2.1 rfl ?_
  refine g_lloadN X0 hx hby d1_12 (pc' := 13) rfl rfl ?_
  refine g_bipush X0 hx hby d1_13 (pc' := 15) rfl (z := (8 : Int32)) rfl ?_
  refine g_lshl X0 hx hby d1_15 (pc' := 16) rfl rfl ?_
  refine g_aloadN X0 hx hby d1_16 (pc' := 17) rfl rfl rfl ?_
  refine g_iloadN X0 hx hby d1_17 (pc' := 18) rfl rfl ?_
  refine g_iload X0 hx hby d1_18 (pc' := 20) rfl rfl ?_
  refine g_iadd X0 hx hby d1_20 (pc' := 21) rfl rfl ?_
  refine Go.baload X0 hx hZ e0 P0 (k := (k1 + 3)) (by have : ((i1 + (3 : Int32)).toInt - (i1.toInt + (3))) % 4294967296 = 0 := c_iadd _ _; have : -2147483648 ≤ (i1 + (3 : Int32)).toInt ∧ (i1 + (3 : Int32)).toInt < 2147483648 := rng32 _; have : -2147483648 ≤ i1.toInt ∧ i1.toInt < 2147483648 := rng32 _; omega) (by omega) (hb hby d1_21) ?_
  show Go p.tables e below s _ _ _ (T0.setTop (mkF m 22 #[.val (.ref x1), .val (.int i1), .val (.long (((((((0 : Int64) <<< ((8 : Int32) &&& 0x3f).toInt64) ||| (((g1 (k1 + 0)) &&& (255 : Int32)).toInt64)) <<< ((8 : Int32) &&& 0x3f).toInt64) ||| (((g1 (k1 + 1)) &&& (255 : Int32)).toInt64)) <<< ((8 : Int32) &&& 0x3f).toInt64) ||| (((g1 (k1 + 2)) &&& (255 : Int32)).toInt64))), .second, .val (.int (3 : Int32))] [(.int (g1 (k1 + 3))), (.long ((((((((0 : Int64) <<< ((8 : Int32) &&& 0x3f).toInt64) ||| (((g1 (k1 + 0)) &&& (255 : Int32)).toInt64)) <<< ((8 : Int32) &&& 0x3f).toInt64) ||| (((g1 (k1 + 1)) &&& (255 : Int32)).toInt64)) <<< ((8 : Int32) &&& 0x3f).toInt64) ||| (((g1 (k1 + 2)) &&& (255 : Int32)).toInt64)) <<< ((8 : Int32) &&& 0x3f).toInt64))]))
  refine g_sipush X0 hx hby d1_22 (pc' := 25) rfl (z := (255 : Int32)) rfl ?_
  refine g_iand X0 hx hby d1_25 (pc' := 26) rfl rfl ?_
  refine g_i2l X0 hx hby d1_26 (pc' := 27) rfl rfl ?_
  refine g_lor X0 hx hby d1_27 (pc' := 28) rfl rfl ?_
  refine g_lstoreN X0 hx hby d1_28 (pc' := 29) rfl (L' := #[.val (.ref x1), .val (.int i1), .val (.long (((((((((0 : Int64) <<< ((8 : Int32) &&& 0x3f).toInt64) ||| (((g1 (k1 + 0)) &&& (255 : Int32)).toInt64)) <<< ((8 : Int32) &&& 0x3f).toInt64) ||| (((g1 (k1 + 1)) &&& (255 : Int32)).toInt64)) <<< ((8 : Int32) &&& 0x3f).toInt64) ||| (((g1 (k1 + 2)) &&& (255 : Int32)).toInt64)) <<< ((8 : Int32) &&& 0x3f).toInt64) ||| (((g1 (k1 + 3)) &&& (255 : Int32)).toInt64))), .second, .val (.int (3 : Int32))]) rfl ?_
  refine g_iinc X0 hx hby d1_29 (pc' := 32) rfl rfl (L' := #[.val (.ref x1), .val (.int i1), .val (.long (((((((((0 : Int64) <<< ((8 : Int32) &&& 0x3f).toInt64) ||| (((g1 (k1 + 0)) &&& (255 : Int32)).toInt64)) <<< ((8 : Int32) &&& 0x3f).toInt64) ||| (((g1 (k1 + 1)) &&& (255 : Int32)).toInt64)) <<< ((8 : Int32) &&& 0x3f).toInt64) ||| (((g1 (k1 + 2)) &&& (255 : Int32)).toInt64)) <<< ((8 : Int32) &&& 0x3f).toInt64) ||| (((g1 (k1 + 3)) &&& (255 : Int32)).toInt64))), .second, .val (.int (4 : Int32))]) rfl ?_
  refine g_goto X0 hx hby d1_32 (pc' := 5) (by decide) (by decide) ?_
  refine g_iload X0 hx hby d1_5 (pc' := 7) rfl rfl ?_
  refine g_bipush X0 hx hby d1_7 (pc' := 9) rfl (z := (8 : Int32)) rfl ?_
  have hc9 : (4 : Int) < (8 : Int) := by decide
  refine g_icmpNo X0 hx hby d1_9 (pc' := 12) (tlt (show (4 : Int32) < (8 : Int32) from Int32.lt_iff_toInt_lt.mpr hc9)).2.1 rfl ?_
  refine g_lloadN X0 hx hby d1_12 (pc' := 13) rfl rfl ?_
  refine g_bipush X0 hx hby d1_13 (pc' := 15) rfl (z := (8 : Int32)) rfl ?_
  refine g_lshl X0 hx hby d1_15 (pc' := 16) rfl rfl ?_
  refine g_aloadN X0 hx hby d1_16 (pc' := 17) rfl rfl rfl ?_
  refine g_iloadN X0 hx hby d1_17 (pc' := 18) rfl rfl ?_
  refine g_iload X0 hx hby d1_18 (pc' := 20) rfl rfl ?_
  refine g_iadd X0 hx hby d1_20 (pc' := 21) rfl rfl ?_
  refine Go.baload X0 hx hZ e0 P0 (k := (k1 + 4)) (by have : ((i1 + (4 : Int32)).toInt - (i1.toInt + (4))) % 4294967296 = 0 := c_iadd _ _; have : -2147483648 ≤ (i1 + (4 : Int32)).toInt ∧ (i1 + (4 : Int32)).toInt < 2147483648 := rng32 _; have : -2147483648 ≤ i1.toInt ∧ i1.toInt < 2147483648 := rng32 _; omega) (by omega) (hb hby d1_21) ?_
  show Go p.tables e below s _ _ _ (T0.setTop (mkF m 22 #[.val (.ref x1), .val (.int i1), .val (.long (((((((((0 : Int64) <<< ((8 : Int32) &&& 0x3f).toInt64) ||| (((g1 (k1 + 0)) &&& (255 : Int32)).toInt64)) <<< ((8 : Int32) &&& 0x3f).toInt64) ||| (((g1 (k1 + 1)) &&& (255 : Int32)).toInt64)) <<< ((8 : Int32) &&& 0x3f).toInt64) ||| (((g1 (k1 + 2)) &&& (255 : Int32)).toInt64)) <<< ((8 : Int32) &&& 0x3f).toInt64) ||| (((g1 (k1 + 3)) &&& (255 : Int32)).toInt64))), .second, .val (.int (4 : Int32))] [(.int (g1 (k1 + 4))), (.long ((((((((((0 : Int64) <<< ((8 : Int32) &&& 0x3f).toInt64) ||| (((g1 (k1 + 0)) &&& (255 : Int32)).toInt64)) <<< ((8 : Int32) &&& 0x3f).toInt64) ||| (((g1 (k1 + 1)) &&& (255 : Int32)).toInt64)) <<< ((8 : Int32) &&& 0x3f).toInt64) ||| (((g1 (k1 + 2)) &&& (255 : Int32)).toInt64)) <<< ((8 : Int32) &&& 0x3f).toInt64) ||| (((g1 (k1 + 3)) &&& (255 : Int32)).toInt64)) <<< ((8 : Int32) &&& 0x3f).toInt64))]))
  refine g_sipush X0 hx hby d1_22 (pc' := 25) rfl (z := (255 : Int32)) rfl ?_
  refine g_iand X0 hx hby d1_25 (pc' := 26) rfl rfl ?_
  refine g_i2l X0 hx hby d1_26 (pc' := 27) rfl rfl ?_
  refine g_lor X0 hx hby d1_27 (pc' := 28) rfl rfl ?_
  refine g_lstoreN X0 hx hby d1_28 (pc' := 29) rfl (L' := #[.val (.ref x1), .val (.int i1), .val (.long (((((((((((0 : Int64) <<< ((8 : Int32) &&& 0x3f).toInt64) ||| (((g1 (k1 + 0)) &&& (255 : Int32)).toInt64)) <<< ((8 : Int32) &&& 0x3f).toInt64) ||| (((g1 (k1 + 1)) &&& (255 : Int32)).toInt64)) <<< ((8 : Int32) &&& 0x3f).toInt64) ||| (((g1 (k1 + 2)) &&& (255 : Int32)).toInt64)) <<< ((8 : Int32) &&& 0x3f).toInt64) ||| (((g1 (k1 + 3)) &&& (255 : Int32)).toInt64)) <<< ((8 : Int32) &&& 0x3f).toInt64) ||| (((g1 (k1 + 4)) &&& (255 : Int32)).toInt64))), .second, .val (.int (4 : Int32))]) rfl ?_
  refine g_iinc X0 hx hby d1_29 (pc' := 32) rfl rfl (L' := #[.val (.ref x1), .val (.int i1), .val (.long (((((((((((0 : Int64) <<< ((8 : Int32) &&& 0x3f).toInt64) ||| (((g1 (k1 + 0)) &&& (255 : Int32)).toInt64)) <<< ((8 : Int32) &&& 0x3f).toInt64) ||| (((g1 (k1 + 1)) &&& (255 : Int32)).toInt64)) <<< ((8 : Int32) &&& 0x3f).toInt64) ||| (((g1 (k1 + 2)) &&& (255 : Int32)).toInt64)) <<< ((8 : Int32) &&& 0x3f).toInt64) ||| (((g1 (k1 + 3)) &&& (255 : Int32)).toInt64)) <<< ((8 : Int32) &&& 0x3f).toInt64) ||| (((g1 (k1 + 4)) &&& (255 : Int32)).toInt64))), .second, .val (.int (5 : Int32))]) rfl ?_
  refine g_goto X0 hx hby d1_32 (pc' := 5) (by decide) (by decide) ?_
  refine g_iload X0 hx hby d1_5 (pc' := 7) rfl rfl ?_
  refine g_bipush X0 hx hby d1_7 (pc' := 9) rfl (z := (8 : Int32)) rfl ?_
  have hc9 : (5 : Int) < (8 : Int) := by decide
  refine g_icmpNo X0 hx hby d1_9 (pc' := 12) (tlt (show (5 : Int32) < (8 : Int32) from Int32.lt_iff_toInt_lt.mpr hc9)).2.1 rfl ?_
  refine g_lloadN X0 hx hby d1_12 (pc' := 13) rfl rfl ?_
  refine g_bipush X0 hx hby d1_13 (pc' := 15) rfl (z := (8 : Int32)) rfl ?_
  refine g_lshl X0 hx hby d1_15 (pc' := 16) rfl rfl ?_
  refine g_aloadN X0 hx hby d1_16 (pc' := 17) rfl rfl rfl ?_
  refine g_iloadN X0 hx hby d1_17 (pc' := 18) rfl rfl ?_
  refine g_iload X0 hx hby d1_18 (pc' := 20) rfl rfl ?_
  refine g_iadd X0 hx hby d1_20 (pc' := 21) rfl rfl ?_
  refine Go.baload X0 hx hZ e0 P0 (k := (k1 + 5)) (by have : ((i1 + (5 : Int32)).toInt - (i1.toInt + (5))) % 4294967296 = 0 := c_iadd _ _; have : -2147483648 ≤ (i1 + (5 : Int32)).toInt ∧ (i1 + (5 : Int32)).toInt < 2147483648 := rng32 _; have : -2147483648 ≤ i1.toInt ∧ i1.toInt < 2147483648 := rng32 _; omega) (by omega) (hb hby d1_21) ?_
  show Go p.tables e below s _ _ _ (T0.setTop (mkF m 22 #[.val (.ref x1), .val (.int i1), .val (.long (((((((((((0 : Int64) <<< ((8 : Int32) &&& 0x3f).toInt64) ||| (((g1 (k1 + 0)) &&& (255 : Int32)).toInt64)) <<< ((8 : Int32) &&& 0x3f).toInt64) ||| (((g1 (k1 + 1)) &&& (255 : Int32)).toInt64)) <<< ((8 : Int32) &&& 0x3f).toInt64) ||| (((g1 (k1 + 2)) &&& (255 : Int32)).toInt64)) <<< ((8 : Int32) &&& 0x3f).toInt64) ||| (((g1 (k1 + 3)) &&& (255 : Int32)).toInt64)) <<< ((8 : Int32) &&& 0x3f).toInt64) ||| (((g1 (k1 + 4)) &&& (255 : Int32)).toInt64))), .second, .val (.int (5 : Int32))] [(.int (g1 (k1 + 5))), (.long ((((((((((((0 : Int64) <<< ((8 : Int32) &&& 0x3f).toInt64) ||| (((g1 (k1 + 0)) &&& (255 : Int32)).toInt64)) <<< ((8 : Int32) &&& 0x3f).toInt64) ||| (((g1 (k1 + 1)) &&& (255 : Int32)).toInt64)) <<< ((8 : Int32) &&& 0x3f).toInt64) ||| (((g1 (k1 + 2)) &&& (255 : Int32)).toInt64)) <<< ((8 : Int32) &&& 0x3f).toInt64) ||| (((g1 (k1 + 3)) &&& (255 : Int32)).toInt64)) <<< ((8 : Int32) &&& 0x3f).toInt64) ||| (((g1 (k1 + 4)) &&& (255 : Int32)).toInt64)) <<< ((8 : Int32) &&& 0x3f).toInt64))]))
  refine g_sipush X0 hx hby d1_22 (pc' := 25) rfl (z := (255 : Int32)) rfl ?_
  refine g_iand X0 hx hby d1_25 (pc' := 26) rfl rfl ?_
  refine g_i2l X0 hx hby d1_26 (pc' := 27) rfl rfl ?_
  refine g_lor X0 hx hby d1_27 (pc' := 28) rfl rfl ?_
  refine g_lstoreN X0 hx hby d1_28 (pc' := 29) rfl (L' := #[.val (.ref x1), .val (.int i1), .val (.long (((((((((((((0 : Int64) <<< ((8 : Int32) &&& 0x3f).toInt64) ||| (((g1 (k1 + 0)) &&& (255 : Int32)).toInt64)) <<< ((8 : Int32) &&& 0x3f).toInt64) ||| (((g1 (k1 + 1)) &&& (255 : Int32)).toInt64)) <<< ((8 : Int32) &&& 0x3f).toInt64) ||| (((g1 (k1 + 2)) &&& (255 : Int32)).toInt64)) <<< ((8 : Int32) &&& 0x3f).toInt64) ||| (((g1 (k1 + 3)) &&& (255 : Int32)).toInt64)) <<< ((8 : Int32) &&& 0x3f).toInt64) ||| (((g1 (k1 + 4)) &&& (255 : Int32)).toInt64)) <<< ((8 : Int32) &&& 0x3f).toInt64) ||| (((g1 (k1 + 5)) &&& (255 : Int32)).toInt64))), .second, .val (.int (5 : Int32))]) rfl ?_
  refine g_iinc X0 hx hby d1_29 (pc' := 32) rfl rfl (L' := #[.val (.ref x1), .val (.int i1), .val (.long (((((((((((((0 : Int64) <<< ((8 : Int32) &&& 0x3f).toInt64) ||| (((g1 (k1 + 0)) &&& (255 : Int32)).toInt64)) <<< ((8 : Int32) &&& 0x3f).toInt64) ||| (((g1 (k1 + 1)) &&& (255 : Int32)).toInt64)) <<< ((8 : Int32) &&& 0x3f).toInt64) ||| (((g1 (k1 + 2)) &&& (255 : Int32)).toInt64)) <<< ((8 : Int32) &&& 0x3f).toInt64) ||| (((g1 (k1 + 3)) &&& (255 : Int32)).toInt64)) <<< ((8 : Int32) &&& 0x3f).toInt64) ||| (((g1 (k1 + 4)) &&& (255 : Int32)).toInt64)) <<< ((8 : Int32) &&& 0x3f).toInt64) ||| (((g1 (k1 + 5)) &&& (255 : Int32)).toInt64))), .second, .val (.int (6 : Int32))]) rfl ?_
  refine g_goto X0 hx hby d1_32 (pc' := 5) (by decide) (by decide) ?_
  refine g_iload X0 hx hby d1_5 (pc' := 7) rfl rfl ?_
  refine g_bipush X0 hx hby d1_7 (pc' := 9) rfl (z := (8 : Int32)) rfl ?_
  have hc9 : (6 : Int) < (8 : Int) := by decide
  refine g_icmpNo X0 hx hby d1_9 (pc' := 12) (tlt (show (6 : Int32) < (8 : Int32) from Int32.lt_iff_toInt_lt.mpr hc9)).2.1 rfl ?_
  refine g_lloadN X0 hx hby d1_12 (pc' := 13) rfl rfl ?_
  refine g_bipush X0 hx hby d1_13 (pc' := 15) rfl (z := (8 : Int32)) rfl ?_
  refine g_lshl X0 hx hby d1_15 (pc' := 16) rfl rfl ?_
  refine g_aloadN X0 hx hby d1_16 (pc' := 17) rfl rfl rfl ?_
  refine g_iloadN X0 hx hby d1_17 (pc' := 18) rfl rfl ?_
  refine g_iload X0 hx hby d1_18 (pc' := 20) rfl rfl ?_
  refine g_iadd X0 hx hby d1_20 (pc' := 21) rfl rfl ?_
  refine Go.baload X0 hx hZ e0 P0 (k := (k1 + 6)) (by have : ((i1 + (6 : Int32)).toInt - (i1.toInt + (6))) % 4294967296 = 0 := c_iadd _ _; have : -2147483648 ≤ (i1 + (6 : Int32)).toInt ∧ (i1 + (6 : Int32)).toInt < 2147483648 := rng32 _; have : -2147483648 ≤ i1.toInt ∧ i1.toInt < 2147483648 := rng32 _; omega) (by omega) (hb hby d1_21) ?_
  show Go p.tables e below s _ _ _ (T0.setTop (mkF m 22 #[.val (.ref x1), .val (.int i1), .val (.long (((((((((((((0 : Int64) <<< ((8 : Int32) &&& 0x3f).toInt64) ||| (((g1 (k1 + 0)) &&& (255 : Int32)).toInt64)) <<< ((8 : Int32) &&& 0x3f).toInt64) ||| (((g1 (k1 + 1)) &&& (255 : Int32)).toInt64)) <<< ((8 : Int32) &&& 0x3f).toInt64) ||| (((g1 (k1 + 2)) &&& (255 : Int32)).toInt64)) <<< ((8 : Int32) &&& 0x3f).toInt64) ||| (((g1 (k1 + 3)) &&& (255 : Int32)).toInt64)) <<< ((8 : Int32) &&& 0x3f).toInt64) ||| (((g1 (k1 + 4)) &&& (255 : Int32)).toInt64)) <<< ((8 : Int32) &&& 0x3f).toInt64) ||| (((g1 (k1 + 5)) &&& (255 : Int32)).toInt64))), .second, .val (.int (6 : Int32))] [(.int (g1 (k1 + 6))), (.long ((((((((((((((0 : Int64) <<< ((8 : Int32) &&& 0x3f).toInt64) ||| (((g1 (k1 + 0)) &&& (255 : Int32)).toInt64)) <<< ((8 : Int32) &&& 0x3f).toInt64) ||| (((g1 (k1 + 1)) &&& (255 : Int32)).toInt64)) <<< ((8 : Int32) &&& 0x3f).toInt64) ||| (((g1 (k1 + 2)) &&& (255 : Int32)).toInt64)) <<< ((8 : Int32) &&& 0x3f).toInt64) ||| (((g1 (k1 + 3)) &&& (255 : Int32)).toInt64)) <<< ((8 : Int32) &&& 0x3f).toInt64) ||| (((g1 (k1 + 4)) &&& (255 : Int32)).toInt64)) <<< ((8 : Int32) &&& 0x3f).toInt64) ||| (((g1 (k1 + 5)) &&& (255 : Int32)).toInt64)) <<< ((8 : Int32) &&& 0x3f).toInt64))]))
  refine g_sipush X0 hx hby d1_22 (pc' := 25) rfl (z := (255 : Int32)) rfl ?_
  refine g_iand X0 hx hby d1_25 (pc' := 26) rfl rfl ?_
  refine g_i2l X0 hx hby d1_26 (pc' := 27) rfl rfl ?_
  refine g_lor X0 hx hby d1_27 (pc' := 28) rfl rfl ?_
  refine g_lstoreN X0 hx hby d1_28 (pc' := 29) rfl (L' := #[.val (.ref x1), .val (.int i1), .val (.long (((((((((((((((0 : Int64) <<< ((8 : Int32) &&& 0x3f).toInt64) ||| (((g1 (k1 + 0)) &&& (255 : Int32)).toInt64)) <<< ((8 : Int32) &&& 0x3f).toInt64) ||| (((g1 (k1 + 1)) &&& (255 : Int32)).toInt64)) <<< ((8 : Int32) &&& 0x3f).toInt64) ||| (((g1 (k1 + 2)) &&& (255 : Int32)).toInt64)) <<< ((8 : Int32) &&& 0x3f).toInt64) ||| (((g1 (k1 + 3)) &&& (255 : Int32)).toInt64)) <<< ((8 : Int32) &&& 0x3f).toInt64) ||| (((g1 (k1 + 4)) &&& (255 : Int32)).toInt64)) <<< ((8 : Int32) &&& 0x3f).toInt64) ||| (((g1 (k1 + 5)) &&& (255 : Int32)).toInt64)) <<< ((8 : Int32) &&& 0x3f).toInt64) ||| (((g1 (k1 + 6)) &&& (255 : Int32)).toInt64))), .second, .val (.int (6 : Int32))]) rfl ?_
  refine g_iinc X0 hx hby d1_29 (pc' := 32) rfl rfl (L' := #[.val (.ref x1), .val (.int i1), .val (.long (((((((((((((((0 : Int64) <<< ((8 : Int32) &&& 0x3f).toInt64) ||| (((g1 (k1 + 0)) &&& (255 : Int32)).toInt64)) <<< ((8 : Int32) &&& 0x3f).toInt64) ||| (((g1 (k1 + 1)) &&& (255 : Int32)).toInt64)) <<< ((8 : Int32) &&& 0x3f).toInt64) ||| (((g1 (k1 + 2)) &&& (255 : Int32)).toInt64)) <<< ((8 : Int32) &&& 0x3f).toInt64) ||| (((g1 (k1 + 3)) &&& (255 : Int32)).toInt64)) <<< ((8 : Int32) &&& 0x3f).toInt64) ||| (((g1 (k1 + 4)) &&& (255 : Int32)).toInt64)) <<< ((8 : Int32) &&& 0x3f).toInt64) ||| (((g1 (k1 + 5)) &&& (255 : Int32)).toInt64)) <<< ((8 : Int32) &&& 0x3f).toInt64) ||| (((g1 (k1 + 6)) &&& (255 : Int32)).toInt64))), .second, .val (.int (7 : Int32))]) rfl ?_
  refine g_goto X0 hx hby d1_32 (pc' := 5) (by decide) (by decide) ?_
  refine g_iload X0 hx hby d1_5 (pc' := 7) rfl rfl ?_
  refine g_bipush X0 hx hby d1_7 (pc' := 9) rfl (z := (8 : Int32)) rfl ?_
  have hc9 : (7 : Int) < (8 : Int) := by decide
  refine g_icmpNo X0 hx hby d1_9 (pc' := 12) (tlt (show (7 : Int32) < (8 : Int32) from Int32.lt_iff_toInt_lt.mpr hc9)).2.1 rfl ?_
  refine g_lloadN X0 hx hby d1_12 (pc' := 13) rfl rfl ?_
  refine g_bipush X0 hx hby d1_13 (pc' := 15) rfl (z := (8 : Int32)) rfl ?_
  refine g_lshl X0 hx hby d1_15 (pc' := 16) rfl rfl ?_
  refine g_aloadN X0 hx hby d1_16 (pc' := 17) rfl rfl rfl ?_
  refine g_iloadN X0 hx hby d1_17 (pc' := 18) rfl rfl ?_
  refine g_iload X0 hx hby d1_18 (pc' := 20) rfl rfl ?_
  refine g_iadd X0 hx hby d1_20 (pc' := 21) rfl rfl ?_
  refine Go.baload X0 hx hZ e0 P0 (k := (k1 + 7)) (by have : ((i1 + (7 : Int32)).toInt - (i1.toInt + (7))) % 4294967296 = 0 := c_iadd _ _; have : -2147483648 ≤ (i1 + (7 : Int32)).toInt ∧ (i1 + (7 : Int32)).toInt < 2147483648 := rng32 _; have : -2147483648 ≤ i1.toInt ∧ i1.toInt < 2147483648 := rng32 _; omega) (by omega) (hb hby d1_21) ?_
  show Go p.tables e below s _ _ _ (T0.setTop (mkF m 22 #[.val (.ref x1), .val (.int i1), .val (.long (((((((((((((((0 : Int64) <<< ((8 : Int32) &&& 0x3f).toInt64) ||| (((g1 (k1 + 0)) &&& (255 : Int32)).toInt64)) <<< ((8 : Int32) &&& 0x3f).toInt64) ||| (((g1 (k1 + 1)) &&& (255 : Int32)).toInt64)) <<< ((8 : Int32) &&& 0x3f).toInt64) ||| (((g1 (k1 + 2)) &&& (255 : Int32)).toInt64)) <<< ((8 : Int32) &&& 0x3f).toInt64) ||| (((g1 (k1 + 3)) &&& (255 : Int32)).toInt64)) <<< ((8 : Int32) &&& 0x3f).toInt64) ||| (((g1 (k1 + 4)) &&& (255 : Int32)).toInt64)) <<< ((8 : Int32) &&& 0x3f).toInt64) ||| (((g1 (k1 + 5)) &&& (255 : Int32)).toInt64)) <<< ((8 : Int32) &&& 0x3f).toInt64) ||| (((g1 (k1 + 6)) &&& (255 : Int32)).toInt64))), .second, .val (.int (7 : Int32))] [(.int (g1 (k1 + 7))), (.long ((((((((((((((((0 : Int64) <<< ((8 : Int32) &&& 0x3f).toInt64) ||| (((g1 (k1 + 0)) &&& (255 : Int32)).toInt64)) <<< ((8 : Int32) &&& 0x3f).toInt64) ||| (((g1 (k1 + 1)) &&& (255 : Int32)).toInt64)) <<< ((8 : Int32) &&& 0x3f).toInt64) ||| (((g1 (k1 + 2)) &&& (255 : Int32)).toInt64)) <<< ((8 : Int32) &&& 0x3f).toInt64) ||| (((g1 (k1 + 3)) &&& (255 : Int32)).toInt64)) <<< ((8 : Int32) &&& 0x3f).toInt64) ||| (((g1 (k1 + 4)) &&& (255 : Int32)).toInt64)) <<< ((8 : Int32) &&& 0x3f).toInt64) ||| (((g1 (k1 + 5)) &&& (255 : Int32)).toInt64)) <<< ((8 : Int32) &&& 0x3f).toInt64) ||| (((g1 (k1 + 6)) &&& (255 : Int32)).toInt64)) <<< ((8 : Int32) &&& 0x3f).toInt64))]))
  refine g_sipush X0 hx hby d1_22 (pc' := 25) rfl (z := (255 : Int32)) rfl ?_
  refine g_iand X0 hx hby d1_25 (pc' := 26) rfl rfl ?_
  refine g_i2l X0 hx hby d1_26 (pc' := 27) rfl rfl ?_
  refine g_lor X0 hx hby d1_27 (pc' := 28) rfl rfl ?_
  refine g_lstoreN X0 hx hby d1_28 (pc' := 29) rfl (L' := #[.val (.ref x1), .val (.int i1), .val (.long (((((((((((((((((0 : Int64) <<< ((8 : Int32) &&& 0x3f).toInt64) ||| (((g1 (k1 + 0)) &&& (255 : Int32)).toInt64)) <<< ((8 : Int32) &&& 0x3f).toInt64) ||| (((g1 (k1 + 1)) &&& (255 : Int32)).toInt64)) <<< ((8 : Int32) &&& 0x3f).toInt64) ||| (((g1 (k1 + 2)) &&& (255 : Int32)).toInt64)) <<< ((8 : Int32) &&& 0x3f).toInt64) ||| (((g1 (k1 + 3)) &&& (255 : Int32)).toInt64)) <<< ((8 : Int32) &&& 0x3f).toInt64) ||| (((g1 (k1 + 4)) &&& (255 : Int32)).toInt64)) <<< ((8 : Int32) &&& 0x3f).toInt64) ||| (((g1 (k1 + 5)) &&& (255 : Int32)).toInt64)) <<< ((8 : Int32) &&& 0x3f).toInt64) ||| (((g1 (k1 + 6)) &&& (255 : Int32)).toInt64)) <<< ((8 : Int32) &&& 0x3f).toInt64) ||| (((g1 (k1 + 7)) &&& (255 : Int32)).toInt64))), .second, .val (.int (7 : Int32))]) rfl ?_
  refine g_iinc X0 hx hby d1_29 (pc' := 32) rfl rfl (L' := #[.val (.ref x1), .val (.int i1), .val (.long (((((((((((((((((0 : Int64) <<< ((8 : Int32) &&& 0x3f).toInt64) ||| (((g1 (k1 + 0)) &&& (255 : Int32)).toInt64)) <<< ((8 : Int32) &&& 0x3f).toInt64) ||| (((g1 (k1 + 1)) &&& (255 : Int32)).toInt64)) <<< ((8 : Int32) &&& 0x3f).toInt64) ||| (((g1 (k1 + 2)) &&& (255 : Int32)).toInt64)) <<< ((8 : Int32) &&& 0x3f).toInt64) ||| (((g1 (k1 + 3)) &&& (255 : Int32)).toInt64)) <<< ((8 : Int32) &&& 0x3f).toInt64) ||| (((g1 (k1 + 4)) &&& (255 : Int32)).toInt64)) <<< ((8 : Int32) &&& 0x3f).toInt64) ||| (((g1 (k1 + 5)) &&& (255 : Int32)).toInt64)) <<< ((8 : Int32) &&& 0x3f).toInt64) ||| (((g1 (k1 + 6)) &&& (255 : Int32)).toInt64)) <<< ((8 : Int32) &&& 0x3f).toInt64) ||| (((g1 (k1 + 7)) &&& (255 : Int32)).toInt64))), .second, .val (.int (8 : Int32))]) rfl ?_
  refine g_goto X0 hx hby d1_32 (pc' := 5) (by decide) (by decide) ?_
  refine g_iload X0 hx hby d1_5 (pc' := 7) rfl rfl ?_
  refine g_bipush X0 hx hby d1_7 (pc' := 9) rfl (z := (8 : Int32)) rfl ?_
  have hc9 : ¬ ((8 : Int) < (8 : Int)) := by decide
  refine g_icmpYes X0 hx hby d1_9 (pc' := 35) (flt (show ¬ ((8 : Int32) < (8 : Int32)) from fun q => hc9 (Int32.lt_iff_toInt_lt.mp q))).2.1 (by decide) (by decide) ?_
  refine g_lloadN X0 hx hby d1_35 (pc' := 36) rfl rfl ?_
  refine Go.retL X0 hx hlk hret (hb hby d1_36) (by decide) (by decide) ?_
  exact ⟨rfl, N0, e0⟩
theorem pd_ayBIzJ : parseMethodDescriptor "([BI)J" = some ⟨[(.array .byte), .int], some .long⟩ := by decide +kernel
theorem ef_rm0 (m : MethodId) (x0 : Int64) (x1 : Int32) (x2 : Int64) : entryFrame m #[(.long x0), (.int x1), (.long x2)] maxLocals = mkF m 0 #[.val (.long x0), .second, .val (.int x1), .val (.long x2), .second, .unset, .unset] [] := by first | (simp [entryFrame, mkF, argsToLocals, Value.category, maxLocals]; done) | rfl
theorem pn_com_example_interval_interval_core_StoreFormatDecodeLongPinLaw : plainName "com/example/interval/interval/core/StoreFormatDecodeLongPinLaw" = true := by first | (simp [plainName, overriddenIn]; done) | decide +kernel
set_option maxRecDepth 65536 in
set_option maxHeartbeats 40000000 in
theorem rm0 (l : Launch) (Z : State) (a0 : Array Value) (hw : ∀ d ∈ tables_1, d.before a0 Z = true) (ws : List Jvm.Cond) (q1 : Int64) (p1 : Int32) (q2 : Int64) (h0 : Heap) (n0 : Nat) (Z0 : n0 ≤ h0.size)  :
    MetFree l x (head1 (Jvm.Cond.code x code maxLocals ret :: ws) room_1) (fun a U => a = #[(.long q1), (.int p1), (.long q2)] ∧ Z.Warmed39 U.vm ∧ U.heap = h0) (fun _ _ _ _ _ => True) (fun _ U o U' => ∃ v L, o = .returned v ∧ (fun v h L => v = some (.int 1) ∧ Fr n0 L) v U'.heap L ∧ FrameEnd U o U' L room_1.cells room_1.slots) := by
  refine meet (y := x) (Q := fun v h L => v = some (.int 1) ∧ Fr n0 L) (plainFor_of_name pn_com_example_interval_interval_core_StoreFormatDecodeLongPinLaw) (fun m => ef_rm0 m q1 p1 q2) ?_
  intro p e s m below meth c T0 hx hby hml hZ hown hnm hret hlk X0 e0
  have N0 := Fr.nil n0
  have hml : c.maxLocals = 7 := hml
  refine g_iloadN X0 hx hby at_0 (pc' := 1) rfl rfl ?_
  refine g_iconst X0 hx hby at_1 (pc' := 2) rfl (z := (3 : Int32)) rfl ?_
  refine g_iand X0 hx hby at_2 (pc' := 3) rfl rfl ?_
  show Go p.tables e below s _ _ _ (T0.setTop (mkF m 3 #[.val (.long q1), .second, .val (.int p1), .val (.long q2), .second, .unset, .unset] [(.int (p1 &&& (3 : Int32)))]))
  generalize hv1 : (p1 &&& (3 : Int32)) = v1
  refine g_istore X0 hx hby at_3 (pc' := 5) rfl (L' := #[.val (.long q1), .second, .val (.int p1), .val (.long q2), .second, .val (.int v1), .unset]) rfl ?_
  obtain ⟨kp, hkp, ek⟩ : ∃ k : Nat, k ≤ 3 ∧ v1.toInt = (k : Int) := ⟨v1.toInt.toNat, by rw [← hv1]; have : (p1 &&& (3 : Int32)).toInt = p1.toInt % 4 := c_mask _ _ 2 (by decide) (by decide); have : -2147483648 ≤ (p1 &&& (3 : Int32)).toInt ∧ (p1 &&& (3 : Int32)).toInt < 2147483648 := rng32 _; have : -2147483648 ≤ p1.toInt ∧ p1.toInt < 2147483648 := rng32 _; omega, by rw [← hv1]; have : (p1 &&& (3 : Int32)).toInt = p1.toInt % 4 := c_mask _ _ 2 (by decide) (by decide); have : -2147483648 ≤ (p1 &&& (3 : Int32)).toInt ∧ (p1 &&& (3 : Int32)).toInt < 2147483648 := rng32 _; have : -2147483648 ≤ p1.toInt ∧ p1.toInt < 2147483648 := rng32 _; omega⟩
  refine g_bipush X0 hx hby at_5 (pc' := 7) rfl (z := (11 : Int32)) rfl ?_
  refine Go.newarr X0 hx hZ (n := 11) (cap := 11) (ty := .byte) rfl (wi hw 0 rfl) e0 (by decide) rfl (by decide) (by decide) (by decide) (by decide) (hb hby at_7) ?_
  intro T2 h2 b2 X2 e2 E2 hb2 V2
  have g3 : n0 ≤ b2 := by rw [hb2]; exact Z0
  have V4 : ArF Z h2 b2 .byte 11 (fun i => .int ((fun _ => (0 : Int32)) i)) := V2
  show Go p.tables e below s _ _ _ (T2.setTop (mkF m 9 #[.val (.long q1), .second, .val (.int p1), .val (.long q2), .second, .val (.int v1), .unset] [(.ref b2)]))
  refine g_astore X2 hx hby at_9 (pc' := 11) rfl rfl (L' := #[.val (.long q1), .second, .val (.int p1), .val (.long q2), .second, .val (.int v1), .val (.ref b2)]) rfl ?_
  refine g_aload X2 hx hby at_11 (pc' := 13) rfl rfl rfl ?_
  refine g_iconst X2 hx hby at_13 (pc' := 14) rfl (z := (0 : Int32)) rfl ?_
  refine g_lloadN X2 hx hby at_14 (pc' := 15) rfl rfl ?_
  refine g_l2i X2 hx hby at_15 (pc' := 16) rfl rfl ?_
  refine g_i2b X2 hx hby at_16 (pc' := 17) rfl rfl ?_
  refine Go.bastore X2 hx hZ e2 V4 (k := 0) rfl (by decide) (hb hby at_17) ?_
  intro T5 h5 X5 e5 W5 V5
  show Go p.tables e below s _ _ _ (T5.setTop (mkF m 18 #[.val (.long q1), .second, .val (.int p1), .val (.long q2), .second, .val (.int v1), .val (.ref b2)] []))
  refine g_aload X5 hx hby at_18 (pc' := 20) rfl rfl rfl ?_
  refine g_iconst X5 hx hby at_20 (pc' := 21) rfl (z := (1 : Int32)) rfl ?_
  refine g_lloadN X5 hx hby at_21 (pc' := 22) rfl rfl ?_
  refine g_bipush X5 hx hby at_22 (pc' := 24) rfl (z := (8 : Int32)) rfl ?_
  refine g_lushr X5 hx hby at_24 (pc' := 25) rfl rfl ?_
  refine g_l2i X5 hx hby at_25 (pc' := 26) rfl rfl ?_
  refine g_i2b X5 hx hby at_26 (pc' := 27) rfl rfl ?_
  refine Go.bastore X5 hx hZ e5 V5 (k := 1) rfl (by decide) (hb hby at_27) ?_
  intro T6 h6 X6 e6 W6 V6
  show Go p.tables e below s _ _ _ (T6.setTop (mkF m 28 #[.val (.long q1), .second, .val (.int p1), .val (.long q2), .second, .val (.int v1), .val (.ref b2)] []))
  refine g_aload X6 hx hby at_28 (pc' := 30) rfl rfl rfl ?_
  refine g_iconst X6 hx hby at_30 (pc' := 31) rfl (z := (2 : Int32)) rfl ?_
  refine g_lloadN X6 hx hby at_31 (pc' := 32) rfl rfl ?_
  refine g_bipush X6 hx hby at_32 (pc' := 34) rfl (z := (16 : Int32)) rfl ?_
  refine g_lushr X6 hx hby at_34 (pc' := 35) rfl rfl ?_
  refine g_l2i X6 hx hby at_35 (pc' := 36) rfl rfl ?_
  refine g_i2b X6 hx hby at_36 (pc' := 37) rfl rfl ?_
  refine Go.bastore X6 hx hZ e6 V6 (k := 2) rfl (by decide) (hb hby at_37) ?_
  intro T7 h7 X7 e7 W7 V7
  have z8 : n0 ≤ h7.size := (Nat.le_trans (Nat.le_trans (Nat.le_trans (Nat.le_trans Z0 E2.1) (Nat.le_of_eq (Wr.size W5).symm)) (Nat.le_of_eq (Wr.size W6).symm)) (Nat.le_of_eq (Wr.size W7).symm))
  show Go p.tables e below s _ _ _ (T7.setTop (mkF m 38 #[.val (.long q1), .second, .val (.int p1), .val (.long q2), .second, .val (.int v1), .val (.ref b2)] []))
  refine g_aload X7 hx hby at_38 (pc' := 40) rfl rfl rfl ?_
  refine g_iconst X7 hx hby at_40 (pc' := 41) rfl (z := (3 : Int32)) rfl ?_
  refine g_lloadN X7 hx hby at_41 (pc' := 42) rfl rfl ?_
  refine g_bipush X7 hx hby at_42 (pc' := 44) rfl (z := (24 : Int32)) rfl ?_
  refine g_lushr X7 hx hby at_44 (pc' := 45) rfl rfl ?_
  refine g_l2i X7 hx hby at_45 (pc' := 46) rfl rfl ?_
  refine g_i2b X7 hx hby at_46 (pc' := 47) rfl rfl ?_
  refine Go.bastore X7 hx hZ e7 V7 (k := 3) rfl (by decide) (hb hby at_47) ?_
  intro T9 h9 X9 e9 W9 V9
  show Go p.tables e below s _ _ _ (T9.setTop (mkF m 48 #[.val (.long q1), .second, .val (.int p1), .val (.long q2), .second, .val (.int v1), .val (.ref b2)] []))
  refine g_aload X9 hx hby at_48 (pc' := 50) rfl rfl rfl ?_
  refine g_iconst X9 hx hby at_50 (pc' := 51) rfl (z := (4 : Int32)) rfl ?_
  refine g_lloadN X9 hx hby at_51 (pc' := 52) rfl rfl ?_
  refine g_bipush X9 hx hby at_52 (pc' := 54) rfl (z := (32 : Int32)) rfl ?_
  refine g_lushr X9 hx hby at_54 (pc' := 55) rfl rfl ?_
  refine g_l2i X9 hx hby at_55 (pc' := 56) rfl rfl ?_
  refine g_i2b X9 hx hby at_56 (pc' := 57) rfl rfl ?_
  refine Go.bastore X9 hx hZ e9 V9 (k := 4) rfl (by decide) (hb hby at_57) ?_
  intro T10 h10 X10 e10 W10 V10
  show Go p.tables e below s _ _ _ (T10.setTop (mkF m 58 #[.val (.long q1), .second, .val (.int p1), .val (.long q2), .second, .val (.int v1), .val (.ref b2)] []))
  refine g_aload X10 hx hby at_58 (pc' := 60) rfl rfl rfl ?_
  refine g_iconst X10 hx hby at_60 (pc' := 61) rfl (z := (5 : Int32)) rfl ?_
  refine g_lloadN X10 hx hby at_61 (pc' := 62) rfl rfl ?_
  refine g_bipush X10 hx hby at_62 (pc' := 64) rfl (z := (40 : Int32)) rfl ?_
  refine g_lushr X10 hx hby at_64 (pc' := 65) rfl rfl ?_
  refine g_l2i X10 hx hby at_65 (pc' := 66) rfl rfl ?_
  refine g_i2b X10 hx hby at_66 (pc' := 67) rfl rfl ?_
  refine Go.bastore X10 hx hZ e10 V10 (k := 5) rfl (by decide) (hb hby at_67) ?_
  intro T11 h11 X11 e11 W11 V11
  show Go p.tables e below s _ _ _ (T11.setTop (mkF m 68 #[.val (.long q1), .second, .val (.int p1), .val (.long q2), .second, .val (.int v1), .val (.ref b2)] []))
  refine g_aload X11 hx hby at_68 (pc' := 70) rfl rfl rfl ?_
  refine g_bipush X11 hx hby at_70 (pc' := 72) rfl (z := (6 : Int32)) rfl ?_
  refine g_lloadN X11 hx hby at_72 (pc' := 73) rfl rfl ?_
  refine g_bipush X11 hx hby at_73 (pc' := 75) rfl (z := (48 : Int32)) rfl ?_
  refine g_lushr X11 hx hby at_75 (pc' := 76) rfl rfl ?_
  refine g_l2i X11 hx hby at_76 (pc' := 77) rfl rfl ?_
  refine g_i2b X11 hx hby at_77 (pc' := 78) rfl rfl ?_
  refine Go.bastore X11 hx hZ e11 V11 (k := 6) rfl (by decide) (hb hby at_78) ?_
  intro T12 h12 X12 e12 W12 V12
  have z13 : n0 ≤ h12.size := (Nat.le_trans (Nat.le_trans (Nat.le_trans (Nat.le_trans z8 (Nat.le_of_eq (Wr.size W9).symm)) (Nat.le_of_eq (Wr.size W10).symm)) (Nat.le_of_eq (Wr.size W11).symm)) (Nat.le_of_eq (Wr.size W12).symm))
  show Go p.tables e below s _ _ _ (T12.setTop (mkF m 79 #[.val (.long q1), .second, .val (.int p1), .val (.long q2), .second, .val (.int v1), .val (.ref b2)] []))
  refine g_aload X12 hx hby at_79 (pc' := 81) rfl rfl rfl ?_
  refine g_bipush X12 hx hby at_81 (pc' := 83) rfl (z := (7 : Int32)) rfl ?_
  refine g_lloadN X12 hx hby at_83 (pc' := 84) rfl rfl ?_
  refine g_bipush X12 hx hby at_84 (pc' := 86) rfl (z := (56 : Int32)) rfl ?_
  refine g_lushr X12 hx hby at_86 (pc' := 87) rfl rfl ?_
  refine g_l2i X12 hx hby at_87 (pc' := 88) rfl rfl ?_
  refine g_i2b X12 hx hby at_88 (pc' := 89) rfl rfl ?_
  refine Go.bastore X12 hx hZ e12 V12 (k := 7) rfl (by decide) (hb hby at_89) ?_
  intro T14 h14 X14 e14 W14 V14
  have N14 := (Fr.snoc X14 (Fr.snoc X12 (Fr.snoc X11 (Fr.snoc X10 (Fr.snoc X9 (Fr.snoc X7 (Fr.snoc X6 (Fr.snoc X5 N0 g3) g3) g3) g3) g3) g3) g3) g3)
  show Go p.tables e below s _ _ _ (T14.setTop (mkF m 90 #[.val (.long q1), .second, .val (.int p1), .val (.long q2), .second, .val (.int v1), .val (.ref b2)] []))
  refine g_aload X14 hx hby at_90 (pc' := 92) rfl rfl rfl ?_
  refine g_bipush X14 hx hby at_92 (pc' := 94) rfl (z := (8 : Int32)) rfl ?_
  refine g_lloadN X14 hx hby at_94 (pc' := 95) rfl rfl ?_
  refine g_bipush X14 hx hby at_95 (pc' := 97) rfl (z := (12 : Int32)) rfl ?_
  refine g_lushr X14 hx hby at_97 (pc' := 98) rfl rfl ?_
  refine g_l2i X14 hx hby at_98 (pc' := 99) rfl rfl ?_
  refine g_i2b X14 hx hby at_99 (pc' := 100) rfl rfl ?_
  refine Go.bastore X14 hx hZ e14 V14 (k := 8) rfl (by decide) (hb hby at_100) ?_
  intro T15 h15 X15 e15 W15 V15
  show Go p.tables e below s _ _ _ (T15.setTop (mkF m 101 #[.val (.long q1), .second, .val (.int p1), .val (.long q2), .second, .val (.int v1), .val (.ref b2)] []))
  refine g_aload X15 hx hby at_101 (pc' := 103) rfl rfl rfl ?_
  refine g_bipush X15 hx hby at_103 (pc' := 105) rfl (z := (9 : Int32)) rfl ?_
  refine g_lloadN X15 hx hby at_105 (pc' := 106) rfl rfl ?_
  refine g_bipush X15 hx hby at_106 (pc' := 108) rfl (z := (20 : Int32)) rfl ?_
  refine g_lushr X15 hx hby at_108 (pc' := 109) rfl rfl ?_
  refine g_l2i X15 hx hby at_109 (pc' := 110) rfl rfl ?_
  refine g_i2b X15 hx hby at_110 (pc' := 111) rfl rfl ?_
  refine Go.bastore X15 hx hZ e15 V15 (k := 9) rfl (by decide) (hb hby at_111) ?_
  intro T16 h16 X16 e16 W16 V16
  show Go p.tables e below s _ _ _ (T16.setTop (mkF m 112 #[.val (.long q1), .second, .val (.int p1), .val (.long q2), .second, .val (.int v1), .val (.ref b2)] []))
  refine g_aload X16 hx hby at_112 (pc' := 114) rfl rfl rfl ?_
  refine g_bipush X16 hx hby at_114 (pc' := 116) rfl (z := (10 : Int32)) rfl ?_
  refine g_lloadN X16 hx hby at_116 (pc' := 117) rfl rfl ?_
  refine g_bipush X16 hx hby at_117 (pc' := 119) rfl (z := (28 : Int32)) rfl ?_
  refine g_lushr X16 hx hby at_119 (pc' := 120) rfl rfl ?_
  refine g_l2i X16 hx hby at_120 (pc' := 121) rfl rfl ?_
  refine g_i2b X16 hx hby at_121 (pc' := 122) rfl rfl ?_
  refine Go.bastore X16 hx hZ e16 V16 (k := 10) rfl (by decide) (hb hby at_122) ?_
  intro T17 h17 X17 e17 W17 V17
  have z18 : n0 ≤ h17.size := (Nat.le_trans (Nat.le_trans (Nat.le_trans (Nat.le_trans z13 (Nat.le_of_eq (Wr.size W14).symm)) (Nat.le_of_eq (Wr.size W15).symm)) (Nat.le_of_eq (Wr.size W16).symm)) (Nat.le_of_eq (Wr.size W17).symm))
  show Go p.tables e below s _ _ _ (T17.setTop (mkF m 123 #[.val (.long q1), .second, .val (.int p1), .val (.long q2), .second, .val (.int v1), .val (.ref b2)] []))
  obtain ⟨G0, VG0⟩ : ∃ g : Nat → Int32, ArF Z h17 b2 .byte 11 (fun i => .int (g i)) := ⟨_, V17⟩
  refine g_aload X17 hx hby at_123 (pc' := 125) rfl rfl rfl ?_
  refine g_iload X17 hx hby at_125 (pc' := 127) rfl rfl ?_
  refine g_lloadN X17 hx hby at_127 (pc' := 128) rfl rfl ?_
  refine g_bipush X17 hx hby at_128 (pc' := 130) rfl (z := (56 : Int32)) rfl ?_
  refine g_lushr X17 hx hby at_130 (pc' := 131) rfl rfl ?_
  refine g_l2i X17 hx hby at_131 (pc' := 132) rfl rfl ?_
  refine g_i2b X17 hx hby at_132 (pc' := 133) rfl rfl ?_
  refine Go.bastore X17 hx hZ e17 VG0 (k := kp) ek (by omega) (hb hby at_133) ?_
  intro T19 h19 X19 e19 W19 V19
  show Go p.tables e below s _ _ _ (T19.setTop (mkF m 134 #[.val (.long q1), .second, .val (.int p1), .val (.long q2), .second, .val (.int v1), .val (.ref b2)] []))
  refine g_aload X19 hx hby at_134 (pc' := 136) rfl rfl rfl ?_
  refine g_iload X19 hx hby at_136 (pc' := 138) rfl rfl ?_
  refine g_iconst X19 hx hby at_138 (pc' := 139) rfl (z := (1 : Int32)) rfl ?_
  refine g_iadd X19 hx hby at_139 (pc' := 140) rfl rfl ?_
  refine g_lloadN X19 hx hby at_140 (pc' := 141) rfl rfl ?_
  refine g_bipush X19 hx hby at_141 (pc' := 143) rfl (z := (48 : Int32)) rfl ?_
  refine g_lushr X19 hx hby at_143 (pc' := 144) rfl rfl ?_
  refine g_l2i X19 hx hby at_144 (pc' := 145) rfl rfl ?_
  refine g_i2b X19 hx hby at_145 (pc' := 146) rfl rfl ?_
  refine Go.bastore X19 hx hZ e19 V19 (k := (kp + 1)) (by have : ((v1 + (1 : Int32)).toInt - (v1.toInt + (1))) % 4294967296 = 0 := c_iadd _ _; have : -2147483648 ≤ (v1 + (1 : Int32)).toInt ∧ (v1 + (1 : Int32)).toInt < 2147483648 := rng32 _; have : -2147483648 ≤ v1.toInt ∧ v1.toInt < 2147483648 := rng32 _; omega) (by omega) (hb hby at_146) ?_
  intro T20 h20 X20 e20 W20 V20
  show Go p.tables e below s _ _ _ (T20.setTop (mkF m 147 #[.val (.long q1), .second, .val (.int p1), .val (.long q2), .second, .val (.int v1), .val (.ref b2)] []))
  refine g_aload X20 hx hby at_147 (pc' := 149) rfl rfl rfl ?_
  refine g_iload X20 hx hby at_149 (pc' := 151) rfl rfl ?_
  refine g_iconst X20 hx hby at_151 (pc' := 152) rfl (z := (2 : Int32)) rfl ?_
  refine g_iadd X20 hx hby at_152 (pc' := 153) rfl rfl ?_
  refine g_lloadN X20 hx hby at_153 (pc' := 154) rfl rfl ?_
  refine g_bipush X20 hx hby at_154 (pc' := 156) rfl (z := (40 : Int32)) rfl ?_
  refine g_lushr X20 hx hby at_156 (pc' := 157) rfl rfl ?_
  refine g_l2i X20 hx hby at_157 (pc' := 158) rfl rfl ?_
  refine g_i2b X20 hx hby at_158 (pc' := 159) rfl rfl ?_
  refine Go.bastore X20 hx hZ e20 V20 (k := (kp + 2)) (by have : ((v1 + (2 : Int32)).toInt - (v1.toInt + (2))) % 4294967296 = 0 := c_iadd _ _; have : -2147483648 ≤ (v1 + (2 : Int32)).toInt ∧ (v1 + (2 : Int32)).toInt < 2147483648 := rng32 _; have : -2147483648 ≤ v1.toInt ∧ v1.toInt < 2147483648 := rng32 _; omega) (by omega) (hb hby at_159) ?_
  intro T21 h21 X21 e21 W21 V21
  show Go p.tables e below s _ _ _ (T21.setTop (mkF m 160 #[.val (.long q1), .second, .val (.int p1), .val (.long q2), .second, .val (.int v1), .val (.ref b2)] []))
  refine g_aload X21 hx hby at_160 (pc' := 162) rfl rfl rfl ?_
  refine g_iload X21 hx hby at_162 (pc' := 164) rfl rfl ?_
  refine g_iconst X21 hx hby at_164 (pc' := 165) rfl (z := (3 : Int32)) rfl ?_
  refine g_iadd X21 hx hby at_165 (pc' := 166) rfl rfl ?_
  refine g_lloadN X21 hx hby at_166 (pc' := 167) rfl rfl ?_
  refine g_bipush X21 hx hby at_167 (pc' := 169) rfl (z := (32 : Int32)) rfl ?_
  refine g_lushr X21 hx hby at_169 (pc' := 170) rfl rfl ?_
  refine g_l2i X21 hx hby at_170 (pc' := 171) rfl rfl ?_
  refine g_i2b X21 hx hby at_171 (pc' := 172) rfl rfl ?_
  refine Go.bastore X21 hx hZ e21 V21 (k := (kp + 3)) (by have : ((v1 + (3 : Int32)).toInt - (v1.toInt + (3))) % 4294967296 = 0 := c_iadd _ _; have : -2147483648 ≤ (v1 + (3 : Int32)).toInt ∧ (v1 + (3 : Int32)).toInt < 2147483648 := rng32 _; have : -2147483648 ≤ v1.toInt ∧ v1.toInt < 2147483648 := rng32 _; omega) (by omega) (hb hby at_172) ?_
  intro T22 h22 X22 e22 W22 V22
  have z23 : n0 ≤ h22.size := (Nat.le_trans (Nat.le_trans (Nat.le_trans (Nat.le_trans z18 (Nat.le_of_eq (Wr.size W19).symm)) (Nat.le_of_eq (Wr.size W20).symm)) (Nat.le_of_eq (Wr.size W21).symm)) (Nat.le_of_eq (Wr.size W22).symm))
  have N22 := (Fr.snoc X22 (Fr.snoc X21 (Fr.snoc X20 (Fr.snoc X19 (Fr.snoc X17 (Fr.snoc X16 (Fr.snoc X15 N14 g3) g3) g3) g3) g3) g3) g3)
  show Go p.tables e below s _ _ _ (T22.setTop (mkF m 173 #[.val (.long q1), .second, .val (.int p1), .val (.long q2), .second, .val (.int v1), .val (.ref b2)] []))
  refine g_aload X22 hx hby at_173 (pc' := 175) rfl rfl rfl ?_
  refine g_iload X22 hx hby at_175 (pc' := 177) rfl rfl ?_
  refine g_iconst X22 hx hby at_177 (pc' := 178) rfl (z := (4 : Int32)) rfl ?_
  refine g_iadd X22 hx hby at_178 (pc' := 179) rfl rfl ?_
  refine g_lloadN X22 hx hby at_179 (pc' := 180) rfl rfl ?_
  refine g_bipush X22 hx hby at_180 (pc' := 182) rfl (z := (24 : Int32)) rfl ?_
  refine g_lushr X22 hx hby at_182 (pc' := 183) rfl rfl ?_
  refine g_l2i X22 hx hby at_183 (pc' := 184) rfl rfl ?_
  refine g_i2b X22 hx hby at_184 (pc' := 185) rfl rfl ?_
  refine Go.bastore X22 hx hZ e22 V22 (k := (kp + 4)) (by have : ((v1 + (4 : Int32)).toInt - (v1.toInt + (4))) % 4294967296 = 0 := c_iadd _ _; have : -2147483648 ≤ (v1 + (4 : Int32)).toInt ∧ (v1 + (4 : Int32)).toInt < 2147483648 := rng32 _; have : -2147483648 ≤ v1.toInt ∧ v1.toInt < 2147483648 := rng32 _; omega) (by omega) (hb hby at_185) ?_
  intro T24 h24 X24 e24 W24 V24
  show Go p.tables e below s _ _ _ (T24.setTop (mkF m 186 #[.val (.long q1), .second, .val (.int p1), .val (.long q2), .second, .val (.int v1), .val (.ref b2)] []))
  refine g_aload X24 hx hby at_186 (pc' := 188) rfl rfl rfl ?_
  refine g_iload X24 hx hby at_188 (pc' := 190) rfl rfl ?_
  refine g_iconst X24 hx hby at_190 (pc' := 191) rfl (z := (5 : Int32)) rfl ?_
  refine g_iadd X24 hx hby at_191 (pc' := 192) rfl rfl ?_
  refine g_lloadN X24 hx hby at_192 (pc' := 193) rfl rfl ?_
  refine g_bipush X24 hx hby at_193 (pc' := 195) rfl (z := (16 : Int32)) rfl ?_
  refine g_lushr X24 hx hby at_195 (pc' := 196) rfl rfl ?_
  refine g_l2i X24 hx hby at_196 (pc' := 197) rfl rfl ?_
  refine g_i2b X24 hx hby at_197 (pc' := 198) rfl rfl ?_
  refine Go.bastore X24 hx hZ e24 V24 (k := (kp + 5)) (by have : ((v1 + (5 : Int32)).toInt - (v1.toInt + (5))) % 4294967296 = 0 := c_iadd _ _; have : -2147483648 ≤ (v1 + (5 : Int32)).toInt ∧ (v1 + (5 : Int32)).toInt < 2147483648 := rng32 _; have : -2147483648 ≤ v1.toInt ∧ v1.toInt < 2147483648 := rng32 _; omega) (by omega) (hb hby at_198) ?_
  intro T25 h25 X25 e25 W25 V25
  show Go p.tables e below s _ _ _ (T25.setTop (mkF m 199 #[.val (.long q1), .second, .val (.int p1), .val (.long q2), .second, .val (.int v1), .val (.ref b2)] []))
  refine g_aload X25 hx hby at_199 (pc' := 201) rfl rfl rfl ?_
  refine g_iload X25 hx hby at_201 (pc' := 203) rfl rfl ?_
  refine g_bipush X25 hx hby at_203 (pc' := 205) rfl (z := (6 : Int32)) rfl ?_
  refine g_iadd X25 hx hby at_205 (pc' := 206) rfl rfl ?_
  refine g_lloadN X25 hx hby at_206 (pc' := 207) rfl rfl ?_
  refine g_bipush X25 hx hby at_207 (pc' := 209) rfl (z := (8 : Int32)) rfl ?_
  refine g_lushr X25 hx hby at_209 (pc' := 210) rfl rfl ?_
  refine g_l2i X25 hx hby at_210 (pc' := 211) rfl rfl ?_
  refine g_i2b X25 hx hby at_211 (pc' := 212) rfl rfl ?_
  refine Go.bastore X25 hx hZ e25 V25 (k := (kp + 6)) (by have : ((v1 + (6 : Int32)).toInt - (v1.toInt + (6))) % 4294967296 = 0 := c_iadd _ _; have : -2147483648 ≤ (v1 + (6 : Int32)).toInt ∧ (v1 + (6 : Int32)).toInt < 2147483648 := rng32 _; have : -2147483648 ≤ v1.toInt ∧ v1.toInt < 2147483648 := rng32 _; omega) (by omega) (hb hby at_212) ?_
  intro T26 h26 X26 e26 W26 V26
  show Go p.tables e below s _ _ _ (T26.setTop (mkF m 213 #[.val (.long q1), .second, .val (.int p1), .val (.long q2), .second, .val (.int v1), .val (.ref b2)] []))
  refine g_aload X26 hx hby at_213 (pc' := 215) rfl rfl rfl ?_
  refine g_iload X26 hx hby at_215 (pc' := 217) rfl rfl ?_
  refine g_bipush X26 hx hby at_217 (pc' := 219) rfl (z := (7 : Int32)) rfl ?_
  refine g_iadd X26 hx hby at_219 (pc' := 220) rfl rfl ?_
  refine g_lloadN X26 hx hby at_220 (pc' := 221) rfl rfl ?_
  refine g_l2i X26 hx hby at_221 (pc' := 222) rfl rfl ?_
  refine g_i2b X26 hx hby at_222 (pc' := 223) rfl rfl ?_
  refine Go.bastore X26 hx hZ e26 V26 (k := (kp + 7)) (by have : ((v1 + (7 : Int32)).toInt - (v1.toInt + (7))) % 4294967296 = 0 := c_iadd _ _; have : -2147483648 ≤ (v1 + (7 : Int32)).toInt ∧ (v1 + (7 : Int32)).toInt < 2147483648 := rng32 _; have : -2147483648 ≤ v1.toInt ∧ v1.toInt < 2147483648 := rng32 _; omega) (by omega) (hb hby at_223) ?_
  intro T27 h27 X27 e27 W27 V27
  have z28 : n0 ≤ h27.size := (Nat.le_trans (Nat.le_trans (Nat.le_trans (Nat.le_trans z23 (Nat.le_of_eq (Wr.size W24).symm)) (Nat.le_of_eq (Wr.size W25).symm)) (Nat.le_of_eq (Wr.size W26).symm)) (Nat.le_of_eq (Wr.size W27).symm))
  show Go p.tables e below s _ _ _ (T27.setTop (mkF m 224 #[.val (.long q1), .second, .val (.int p1), .val (.long q2), .second, .val (.int v1), .val (.ref b2)] []))
  refine g_aload X27 hx hby at_224 (pc' := 226) rfl rfl rfl ?_
  refine g_iload X27 hx hby at_226 (pc' := 228) rfl rfl ?_
  refine Go.callS X27 hx hZ (y := (⟨"com/example/interval/interval/core/StoreFormat", "decodeLong", "([BI)J"⟩ : MethodName)) hown (wi hw 1 rfl) (wi hw 2 rfl) (wi hw 3 rfl) (wi hw 4 rfl) (by decide) e27 (argsL := [(.ref b2), (.int v1)]) (rest := []) (W := 0) (rm1 l Z a0 hw b2 v1 11 (upI (upI (upI (upI (upI (upI (upI (upI G0 kp (nar .byte ((((q1.toUInt64 >>> ((56 : Int32) &&& 0x3f).toInt64.toUInt64).toInt64).toInt32).toInt8.toInt32))) (kp + 1) (nar .byte ((((q1.toUInt64 >>> ((48 : Int32) &&& 0x3f).toInt64.toUInt64).toInt64).toInt32).toInt8.toInt32))) (kp + 2) (nar .byte ((((q1.toUInt64 >>> ((40 : Int32) &&& 0x3f).toInt64.toUInt64).toInt64).toInt32).toInt8.toInt32))) (kp + 3) (nar .byte ((((q1.toUInt64 >>> ((32 : Int32) &&& 0x3f).toInt64.toUInt64).toInt64).toInt32).toInt8.toInt32))) (kp + 4) (nar .byte ((((q1.toUInt64 >>> ((24 : Int32) &&& 0x3f).toInt64.toUInt64).toInt64).toInt32).toInt8.toInt32))) (kp + 5) (nar .byte ((((q1.toUInt64 >>> ((16 : Int32) &&& 0x3f).toInt64.toUInt64).toInt64).toInt32).toInt8.toInt32))) (kp + 6) (nar .byte ((((q1.toUInt64 >>> ((8 : Int32) &&& 0x3f).toInt64.toUInt64).toInt64).toInt32).toInt8.toInt32))) (kp + 7) (nar .byte ((q1.toInt32).toInt8.toInt32))) kp h27 n0 z28 V27 ek (by omega)) (hb hby at_228) (by rw [hml]; rfl) rfl pd_ayBIzJ rfl rfl (by decide) (by decide) (by decide) (by decide) ?_
  intro v29 T29 L29 X29 hQ29
  obtain ⟨rfl, Nq29, hh29⟩ := hQ29
  have N29 := Fr.app (Fr.snoc X27 (Fr.snoc X26 (Fr.snoc X25 (Fr.snoc X24 N22 g3) g3) g3) g3) Nq29
  show Go p.tables e below s _ _ _ (T29.setTop (mkF m 231 #[.val (.long q1), .second, .val (.int p1), .val (.long q2), .second, .val (.int v1), .val (.ref b2)] [(.long (own_dec8 ((upI (upI (upI (upI (upI (upI (upI (upI G0 kp (nar .byte ((((q1.toUInt64 >>> ((56 : Int32) &&& 0x3f).toInt64.toUInt64).toInt64).toInt32).toInt8.toInt32))) (kp + 1) (nar .byte ((((q1.toUInt64 >>> ((48 : Int32) &&& 0x3f).toInt64.toUInt64).toInt64).toInt32).toInt8.toInt32))) (kp + 2) (nar .byte ((((q1.toUInt64 >>> ((40 : Int32) &&& 0x3f).toInt64.toUInt64).toInt64).toInt32).toInt8.toInt32))) (kp + 3) (nar .byte ((((q1.toUInt64 >>> ((32 : Int32) &&& 0x3f).toInt64.toUInt64).toInt64).toInt32).toInt8.toInt32))) (kp + 4) (nar .byte ((((q1.toUInt64 >>> ((24 : Int32) &&& 0x3f).toInt64.toUInt64).toInt64).toInt32).toInt8.toInt32))) (kp + 5) (nar .byte ((((q1.toUInt64 >>> ((16 : Int32) &&& 0x3f).toInt64.toUInt64).toInt64).toInt32).toInt8.toInt32))) (kp + 6) (nar .byte ((((q1.toUInt64 >>> ((8 : Int32) &&& 0x3f).toInt64.toUInt64).toInt64).toInt32).toInt8.toInt32))) (kp + 7) (nar .byte ((q1.toInt32).toInt8.toInt32))) (kp + 0)) ((upI (upI (upI (upI (upI (upI (upI (upI G0 kp (nar .byte ((((q1.toUInt64 >>> ((56 : Int32) &&& 0x3f).toInt64.toUInt64).toInt64).toInt32).toInt8.toInt32))) (kp + 1) (nar .byte ((((q1.toUInt64 >>> ((48 : Int32) &&& 0x3f).toInt64.toUInt64).toInt64).toInt32).toInt8.toInt32))) (kp + 2) (nar .byte ((((q1.toUInt64 >>> ((40 : Int32) &&& 0x3f).toInt64.toUInt64).toInt64).toInt32).toInt8.toInt32))) (kp + 3) (nar .byte ((((q1.toUInt64 >>> ((32 : Int32) &&& 0x3f).toInt64.toUInt64).toInt64).toInt32).toInt8.toInt32))) (kp + 4) (nar .byte ((((q1.toUInt64 >>> ((24 : Int32) &&& 0x3f).toInt64.toUInt64).toInt64).toInt32).toInt8.toInt32))) (kp + 5) (nar .byte ((((q1.toUInt64 >>> ((16 : Int32) &&& 0x3f).toInt64.toUInt64).toInt64).toInt32).toInt8.toInt32))) (kp + 6) (nar .byte ((((q1.toUInt64 >>> ((8 : Int32) &&& 0x3f).toInt64.toUInt64).toInt64).toInt32).toInt8.toInt32))) (kp + 7) (nar .byte ((q1.toInt32).toInt8.toInt32))) (kp + 1)) ((upI (upI (upI (upI (upI (upI (upI (upI G0 kp (nar .byte ((((q1.toUInt64 >>> ((56 : Int32) &&& 0x3f).toInt64.toUInt64).toInt64).toInt32).toInt8.toInt32))) (kp + 1) (nar .byte ((((q1.toUInt64 >>> ((48 : Int32) &&& 0x3f).toInt64.toUInt64).toInt64).toInt32).toInt8.toInt32))) (kp + 2) (nar .byte ((((q1.toUInt64 >>> ((40 : Int32) &&& 0x3f).toInt64.toUInt64).toInt64).toInt32).toInt8.toInt32))) (kp + 3) (nar .byte ((((q1.toUInt64 >>> ((32 : Int32) &&& 0x3f).toInt64.toUInt64).toInt64).toInt32).toInt8.toInt32))) (kp + 4) (nar .byte ((((q1.toUInt64 >>> ((24 : Int32) &&& 0x3f).toInt64.toUInt64).toInt64).toInt32).toInt8.toInt32))) (kp + 5) (nar .byte ((((q1.toUInt64 >>> ((16 : Int32) &&& 0x3f).toInt64.toUInt64).toInt64).toInt32).toInt8.toInt32))) (kp + 6) (nar .byte ((((q1.toUInt64 >>> ((8 : Int32) &&& 0x3f).toInt64.toUInt64).toInt64).toInt32).toInt8.toInt32))) (kp + 7) (nar .byte ((q1.toInt32).toInt8.toInt32))) (kp + 2)) ((upI (upI (upI (upI (upI (upI (upI (upI G0 kp (nar .byte ((((q1.toUInt64 >>> ((56 : Int32) &&& 0x3f).toInt64.toUInt64).toInt64).toInt32).toInt8.toInt32))) (kp + 1) (nar .byte ((((q1.toUInt64 >>> ((48 : Int32) &&& 0x3f).toInt64.toUInt64).toInt64).toInt32).toInt8.toInt32))) (kp + 2) (nar .byte ((((q1.toUInt64 >>> ((40 : Int32) &&& 0x3f).toInt64.toUInt64).toInt64).toInt32).toInt8.toInt32))) (kp + 3) (nar .byte ((((q1.toUInt64 >>> ((32 : Int32) &&& 0x3f).toInt64.toUInt64).toInt64).toInt32).toInt8.toInt32))) (kp + 4) (nar .byte ((((q1.toUInt64 >>> ((24 : Int32) &&& 0x3f).toInt64.toUInt64).toInt64).toInt32).toInt8.toInt32))) (kp + 5) (nar .byte ((((q1.toUInt64 >>> ((16 : Int32) &&& 0x3f).toInt64.toUInt64).toInt64).toInt32).toInt8.toInt32))) (kp + 6) (nar .byte ((((q1.toUInt64 >>> ((8 : Int32) &&& 0x3f).toInt64.toUInt64).toInt64).toInt32).toInt8.toInt32))) (kp + 7) (nar .byte ((q1.toInt32).toInt8.toInt32))) (kp + 3)) ((upI (upI (upI (upI (upI (upI (upI (upI G0 kp (nar .byte ((((q1.toUInt64 >>> ((56 : Int32) &&& 0x3f).toInt64.toUInt64).toInt64).toInt32).toInt8.toInt32))) (kp + 1) (nar .byte ((((q1.toUInt64 >>> ((48 : Int32) &&& 0x3f).toInt64.toUInt64).toInt64).toInt32).toInt8.toInt32))) (kp + 2) (nar .byte ((((q1.toUInt64 >>> ((40 : Int32) &&& 0x3f).toInt64.toUInt64).toInt64).toInt32).toInt8.toInt32))) (kp + 3) (nar .byte ((((q1.toUInt64 >>> ((32 : Int32) &&& 0x3f).toInt64.toUInt64).toInt64).toInt32).toInt8.toInt32))) (kp + 4) (nar .byte ((((q1.toUInt64 >>> ((24 : Int32) &&& 0x3f).toInt64.toUInt64).toInt64).toInt32).toInt8.toInt32))) (kp + 5) (nar .byte ((((q1.toUInt64 >>> ((16 : Int32) &&& 0x3f).toInt64.toUInt64).toInt64).toInt32).toInt8.toInt32))) (kp + 6) (nar .byte ((((q1.toUInt64 >>> ((8 : Int32) &&& 0x3f).toInt64.toUInt64).toInt64).toInt32).toInt8.toInt32))) (kp + 7) (nar .byte ((q1.toInt32).toInt8.toInt32))) (kp + 4)) ((upI (upI (upI (upI (upI (upI (upI (upI G0 kp (nar .byte ((((q1.toUInt64 >>> ((56 : Int32) &&& 0x3f).toInt64.toUInt64).toInt64).toInt32).toInt8.toInt32))) (kp + 1) (nar .byte ((((q1.toUInt64 >>> ((48 : Int32) &&& 0x3f).toInt64.toUInt64).toInt64).toInt32).toInt8.toInt32))) (kp + 2) (nar .byte ((((q1.toUInt64 >>> ((40 : Int32) &&& 0x3f).toInt64.toUInt64).toInt64).toInt32).toInt8.toInt32))) (kp + 3) (nar .byte ((((q1.toUInt64 >>> ((32 : Int32) &&& 0x3f).toInt64.toUInt64).toInt64).toInt32).toInt8.toInt32))) (kp + 4) (nar .byte ((((q1.toUInt64 >>> ((24 : Int32) &&& 0x3f).toInt64.toUInt64).toInt64).toInt32).toInt8.toInt32))) (kp + 5) (nar .byte ((((q1.toUInt64 >>> ((16 : Int32) &&& 0x3f).toInt64.toUInt64).toInt64).toInt32).toInt8.toInt32))) (kp + 6) (nar .byte ((((q1.toUInt64 >>> ((8 : Int32) &&& 0x3f).toInt64.toUInt64).toInt64).toInt32).toInt8.toInt32))) (kp + 7) (nar .byte ((q1.toInt32).toInt8.toInt32))) (kp + 5)) ((upI (upI (upI (upI (upI (upI (upI (upI G0 kp (nar .byte ((((q1.toUInt64 >>> ((56 : Int32) &&& 0x3f).toInt64.toUInt64).toInt64).toInt32).toInt8.toInt32))) (kp + 1) (nar .byte ((((q1.toUInt64 >>> ((48 : Int32) &&& 0x3f).toInt64.toUInt64).toInt64).toInt32).toInt8.toInt32))) (kp + 2) (nar .byte ((((q1.toUInt64 >>> ((40 : Int32) &&& 0x3f).toInt64.toUInt64).toInt64).toInt32).toInt8.toInt32))) (kp + 3) (nar .byte ((((q1.toUInt64 >>> ((32 : Int32) &&& 0x3f).toInt64.toUInt64).toInt64).toInt32).toInt8.toInt32))) (kp + 4) (nar .byte ((((q1.toUInt64 >>> ((24 : Int32) &&& 0x3f).toInt64.toUInt64).toInt64).toInt32).toInt8.toInt32))) (kp + 5) (nar .byte ((((q1.toUInt64 >>> ((16 : Int32) &&& 0x3f).toInt64.toUInt64).toInt64).toInt32).toInt8.toInt32))) (kp + 6) (nar .byte ((((q1.toUInt64 >>> ((8 : Int32) &&& 0x3f).toInt64.toUInt64).toInt64).toInt32).toInt8.toInt32))) (kp + 7) (nar .byte ((q1.toInt32).toInt8.toInt32))) (kp + 6)) ((upI (upI (upI (upI (upI (upI (upI (upI G0 kp (nar .byte ((((q1.toUInt64 >>> ((56 : Int32) &&& 0x3f).toInt64.toUInt64).toInt64).toInt32).toInt8.toInt32))) (kp + 1) (nar .byte ((((q1.toUInt64 >>> ((48 : Int32) &&& 0x3f).toInt64.toUInt64).toInt64).toInt32).toInt8.toInt32))) (kp + 2) (nar .byte ((((q1.toUInt64 >>> ((40 : Int32) &&& 0x3f).toInt64.toUInt64).toInt64).toInt32).toInt8.toInt32))) (kp + 3) (nar .byte ((((q1.toUInt64 >>> ((32 : Int32) &&& 0x3f).toInt64.toUInt64).toInt64).toInt32).toInt8.toInt32))) (kp + 4) (nar .byte ((((q1.toUInt64 >>> ((24 : Int32) &&& 0x3f).toInt64.toUInt64).toInt64).toInt32).toInt8.toInt32))) (kp + 5) (nar .byte ((((q1.toUInt64 >>> ((16 : Int32) &&& 0x3f).toInt64.toUInt64).toInt64).toInt32).toInt8.toInt32))) (kp + 6) (nar .byte ((((q1.toUInt64 >>> ((8 : Int32) &&& 0x3f).toInt64.toUInt64).toInt64).toInt32).toInt8.toInt32))) (kp + 7) (nar .byte ((q1.toInt32).toInt8.toInt32))) (kp + 7))))]))
  refine g_lloadN X29 hx hby at_231 (pc' := 232) rfl rfl ?_
  have hgot : (own_dec8 ((upI (upI (upI (upI (upI (upI (upI (upI G0 kp (nar .byte ((((q1.toUInt64 >>> ((56 : Int32) &&& 0x3f).toInt64.toUInt64).toInt64).toInt32).toInt8.toInt32))) (kp + 1) (nar .byte ((((q1.toUInt64 >>> ((48 : Int32) &&& 0x3f).toInt64.toUInt64).toInt64).toInt32).toInt8.toInt32))) (kp + 2) (nar .byte ((((q1.toUInt64 >>> ((40 : Int32) &&& 0x3f).toInt64.toUInt64).toInt64).toInt32).toInt8.toInt32))) (kp + 3) (nar .byte ((((q1.toUInt64 >>> ((32 : Int32) &&& 0x3f).toInt64.toUInt64).toInt64).toInt32).toInt8.toInt32))) (kp + 4) (nar .byte ((((q1.toUInt64 >>> ((24 : Int32) &&& 0x3f).toInt64.toUInt64).toInt64).toInt32).toInt8.toInt32))) (kp + 5) (nar .byte ((((q1.toUInt64 >>> ((16 : Int32) &&& 0x3f).toInt64.toUInt64).toInt64).toInt32).toInt8.toInt32))) (kp + 6) (nar .byte ((((q1.toUInt64 >>> ((8 : Int32) &&& 0x3f).toInt64.toUInt64).toInt64).toInt32).toInt8.toInt32))) (kp + 7) (nar .byte ((q1.toInt32).toInt8.toInt32))) (kp + 0)) ((upI (upI (upI (upI (upI (upI (upI (upI G0 kp (nar .byte ((((q1.toUInt64 >>> ((56 : Int32) &&& 0x3f).toInt64.toUInt64).toInt64).toInt32).toInt8.toInt32))) (kp + 1) (nar .byte ((((q1.toUInt64 >>> ((48 : Int32) &&& 0x3f).toInt64.toUInt64).toInt64).toInt32).toInt8.toInt32))) (kp + 2) (nar .byte ((((q1.toUInt64 >>> ((40 : Int32) &&& 0x3f).toInt64.toUInt64).toInt64).toInt32).toInt8.toInt32))) (kp + 3) (nar .byte ((((q1.toUInt64 >>> ((32 : Int32) &&& 0x3f).toInt64.toUInt64).toInt64).toInt32).toInt8.toInt32))) (kp + 4) (nar .byte ((((q1.toUInt64 >>> ((24 : Int32) &&& 0x3f).toInt64.toUInt64).toInt64).toInt32).toInt8.toInt32))) (kp + 5) (nar .byte ((((q1.toUInt64 >>> ((16 : Int32) &&& 0x3f).toInt64.toUInt64).toInt64).toInt32).toInt8.toInt32))) (kp + 6) (nar .byte ((((q1.toUInt64 >>> ((8 : Int32) &&& 0x3f).toInt64.toUInt64).toInt64).toInt32).toInt8.toInt32))) (kp + 7) (nar .byte ((q1.toInt32).toInt8.toInt32))) (kp + 1)) ((upI (upI (upI (upI (upI (upI (upI (upI G0 kp (nar .byte ((((q1.toUInt64 >>> ((56 : Int32) &&& 0x3f).toInt64.toUInt64).toInt64).toInt32).toInt8.toInt32))) (kp + 1) (nar .byte ((((q1.toUInt64 >>> ((48 : Int32) &&& 0x3f).toInt64.toUInt64).toInt64).toInt32).toInt8.toInt32))) (kp + 2) (nar .byte ((((q1.toUInt64 >>> ((40 : Int32) &&& 0x3f).toInt64.toUInt64).toInt64).toInt32).toInt8.toInt32))) (kp + 3) (nar .byte ((((q1.toUInt64 >>> ((32 : Int32) &&& 0x3f).toInt64.toUInt64).toInt64).toInt32).toInt8.toInt32))) (kp + 4) (nar .byte ((((q1.toUInt64 >>> ((24 : Int32) &&& 0x3f).toInt64.toUInt64).toInt64).toInt32).toInt8.toInt32))) (kp + 5) (nar .byte ((((q1.toUInt64 >>> ((16 : Int32) &&& 0x3f).toInt64.toUInt64).toInt64).toInt32).toInt8.toInt32))) (kp + 6) (nar .byte ((((q1.toUInt64 >>> ((8 : Int32) &&& 0x3f).toInt64.toUInt64).toInt64).toInt32).toInt8.toInt32))) (kp + 7) (nar .byte ((q1.toInt32).toInt8.toInt32))) (kp + 2)) ((upI (upI (upI (upI (upI (upI (upI (upI G0 kp (nar .byte ((((q1.toUInt64 >>> ((56 : Int32) &&& 0x3f).toInt64.toUInt64).toInt64).toInt32).toInt8.toInt32))) (kp + 1) (nar .byte ((((q1.toUInt64 >>> ((48 : Int32) &&& 0x3f).toInt64.toUInt64).toInt64).toInt32).toInt8.toInt32))) (kp + 2) (nar .byte ((((q1.toUInt64 >>> ((40 : Int32) &&& 0x3f).toInt64.toUInt64).toInt64).toInt32).toInt8.toInt32))) (kp + 3) (nar .byte ((((q1.toUInt64 >>> ((32 : Int32) &&& 0x3f).toInt64.toUInt64).toInt64).toInt32).toInt8.toInt32))) (kp + 4) (nar .byte ((((q1.toUInt64 >>> ((24 : Int32) &&& 0x3f).toInt64.toUInt64).toInt64).toInt32).toInt8.toInt32))) (kp + 5) (nar .byte ((((q1.toUInt64 >>> ((16 : Int32) &&& 0x3f).toInt64.toUInt64).toInt64).toInt32).toInt8.toInt32))) (kp + 6) (nar .byte ((((q1.toUInt64 >>> ((8 : Int32) &&& 0x3f).toInt64.toUInt64).toInt64).toInt32).toInt8.toInt32))) (kp + 7) (nar .byte ((q1.toInt32).toInt8.toInt32))) (kp + 3)) ((upI (upI (upI (upI (upI (upI (upI (upI G0 kp (nar .byte ((((q1.toUInt64 >>> ((56 : Int32) &&& 0x3f).toInt64.toUInt64).toInt64).toInt32).toInt8.toInt32))) (kp + 1) (nar .byte ((((q1.toUInt64 >>> ((48 : Int32) &&& 0x3f).toInt64.toUInt64).toInt64).toInt32).toInt8.toInt32))) (kp + 2) (nar .byte ((((q1.toUInt64 >>> ((40 : Int32) &&& 0x3f).toInt64.toUInt64).toInt64).toInt32).toInt8.toInt32))) (kp + 3) (nar .byte ((((q1.toUInt64 >>> ((32 : Int32) &&& 0x3f).toInt64.toUInt64).toInt64).toInt32).toInt8.toInt32))) (kp + 4) (nar .byte ((((q1.toUInt64 >>> ((24 : Int32) &&& 0x3f).toInt64.toUInt64).toInt64).toInt32).toInt8.toInt32))) (kp + 5) (nar .byte ((((q1.toUInt64 >>> ((16 : Int32) &&& 0x3f).toInt64.toUInt64).toInt64).toInt32).toInt8.toInt32))) (kp + 6) (nar .byte ((((q1.toUInt64 >>> ((8 : Int32) &&& 0x3f).toInt64.toUInt64).toInt64).toInt32).toInt8.toInt32))) (kp + 7) (nar .byte ((q1.toInt32).toInt8.toInt32))) (kp + 4)) ((upI (upI (upI (upI (upI (upI (upI (upI G0 kp (nar .byte ((((q1.toUInt64 >>> ((56 : Int32) &&& 0x3f).toInt64.toUInt64).toInt64).toInt32).toInt8.toInt32))) (kp + 1) (nar .byte ((((q1.toUInt64 >>> ((48 : Int32) &&& 0x3f).toInt64.toUInt64).toInt64).toInt32).toInt8.toInt32))) (kp + 2) (nar .byte ((((q1.toUInt64 >>> ((40 : Int32) &&& 0x3f).toInt64.toUInt64).toInt64).toInt32).toInt8.toInt32))) (kp + 3) (nar .byte ((((q1.toUInt64 >>> ((32 : Int32) &&& 0x3f).toInt64.toUInt64).toInt64).toInt32).toInt8.toInt32))) (kp + 4) (nar .byte ((((q1.toUInt64 >>> ((24 : Int32) &&& 0x3f).toInt64.toUInt64).toInt64).toInt32).toInt8.toInt32))) (kp + 5) (nar .byte ((((q1.toUInt64 >>> ((16 : Int32) &&& 0x3f).toInt64.toUInt64).toInt64).toInt32).toInt8.toInt32))) (kp + 6) (nar .byte ((((q1.toUInt64 >>> ((8 : Int32) &&& 0x3f).toInt64.toUInt64).toInt64).toInt32).toInt8.toInt32))) (kp + 7) (nar .byte ((q1.toInt32).toInt8.toInt32))) (kp + 5)) ((upI (upI (upI (upI (upI (upI (upI (upI G0 kp (nar .byte ((((q1.toUInt64 >>> ((56 : Int32) &&& 0x3f).toInt64.toUInt64).toInt64).toInt32).toInt8.toInt32))) (kp + 1) (nar .byte ((((q1.toUInt64 >>> ((48 : Int32) &&& 0x3f).toInt64.toUInt64).toInt64).toInt32).toInt8.toInt32))) (kp + 2) (nar .byte ((((q1.toUInt64 >>> ((40 : Int32) &&& 0x3f).toInt64.toUInt64).toInt64).toInt32).toInt8.toInt32))) (kp + 3) (nar .byte ((((q1.toUInt64 >>> ((32 : Int32) &&& 0x3f).toInt64.toUInt64).toInt64).toInt32).toInt8.toInt32))) (kp + 4) (nar .byte ((((q1.toUInt64 >>> ((24 : Int32) &&& 0x3f).toInt64.toUInt64).toInt64).toInt32).toInt8.toInt32))) (kp + 5) (nar .byte ((((q1.toUInt64 >>> ((16 : Int32) &&& 0x3f).toInt64.toUInt64).toInt64).toInt32).toInt8.toInt32))) (kp + 6) (nar .byte ((((q1.toUInt64 >>> ((8 : Int32) &&& 0x3f).toInt64.toUInt64).toInt64).toInt32).toInt8.toInt32))) (kp + 7) (nar .byte ((q1.toInt32).toInt8.toInt32))) (kp + 6)) ((upI (upI (upI (upI (upI (upI (upI (upI G0 kp (nar .byte ((((q1.toUInt64 >>> ((56 : Int32) &&& 0x3f).toInt64.toUInt64).toInt64).toInt32).toInt8.toInt32))) (kp + 1) (nar .byte ((((q1.toUInt64 >>> ((48 : Int32) &&& 0x3f).toInt64.toUInt64).toInt64).toInt32).toInt8.toInt32))) (kp + 2) (nar .byte ((((q1.toUInt64 >>> ((40 : Int32) &&& 0x3f).toInt64.toUInt64).toInt64).toInt32).toInt8.toInt32))) (kp + 3) (nar .byte ((((q1.toUInt64 >>> ((32 : Int32) &&& 0x3f).toInt64.toUInt64).toInt64).toInt32).toInt8.toInt32))) (kp + 4) (nar .byte ((((q1.toUInt64 >>> ((24 : Int32) &&& 0x3f).toInt64.toUInt64).toInt64).toInt32).toInt8.toInt32))) (kp + 5) (nar .byte ((((q1.toUInt64 >>> ((16 : Int32) &&& 0x3f).toInt64.toUInt64).toInt64).toInt32).toInt8.toInt32))) (kp + 6) (nar .byte ((((q1.toUInt64 >>> ((8 : Int32) &&& 0x3f).toInt64.toUInt64).toInt64).toInt32).toInt8.toInt32))) (kp + 7) (nar .byte ((q1.toInt32).toInt8.toInt32))) (kp + 7))) = q1 := by
    simp only [upI, if_true, Nat.add_left_cancel_iff, Nat.left_eq_add, Nat.add_eq_left, Nat.add_zero, Nat.reduceEqDiff, if_false]
    exact own_dec_eq q1
  rw [hgot]
  show Go p.tables e below s _ _ _ (T29.setTop (mkF m 232 #[.val (.long q1), .second, .val (.int p1), .val (.long q2), .second, .val (.int v1), .val (.ref b2)] [(.long q1), (.long q1)]))
  refine g_lcmp X29 hx hby at_232 (pc' := 233) rfl  ?_
  have hc233 : q1.toInt = q1.toInt := rfl
  refine g_ifNo X29 hx hby at_233 (pc' := 236) (teq (show (lcmpW q1 q1) = (0 : Int32) from (lw_eq q1 q1).mpr (Int64.toInt_inj.mp hc233))).2 rfl ?_
  refine g_iconst X29 hx hby at_236 (pc' := 237) rfl (z := (1 : Int32)) rfl ?_
  refine g_goto X29 hx hby at_237 (pc' := 241) (by decide) (by decide) ?_
  refine Go.retZ X29 hx hlk hret (by simp) (hb hby at_241) (by decide) (by decide) ?_
  exact ⟨rfl, N29⟩
set_option maxRecDepth 65536 in
set_option maxHeartbeats 40000000 in
theorem comes_1 {Post : Tables → Env → Array Value → State → Outcome → State → Prop} (hpost : ∀ tb e args s v u, (limb_1_1.after args s (.returned v) u = true ∧ limb_1_2.after args s (.returned v) u = true) → FrameEnd s (.returned v) u (Jvm.fieldLocs frame_1_writes args s ++ Jvm.arrayLocs frame_1_arrays args s ++ Jvm.staticLocs frame_1_statics s) 16 128 → Post tb e args s (.returned v) u) :
    ArmFor flags0 classFile x code maxLocals ret World_1 tables_1 room_1 Calls_1 rest_1 Pre_1 Post := by
  intro l hfl _ _ p e ha hc hk s m args below hf hA hF happ hP
  obtain ⟨hcalls, hrest, hpre⟩ := hP
  obtain ⟨-, -, -, hnamed, -, -, -, hat⟩ := (Spec.applies_iff hf).mp happ
  obtain ⟨hg, hn⟩ := and_e (Cond.before_iff.mp (show (Jvm.Cond.and given_1 narrow_1).before args s = true from hpre))
  obtain ⟨g0, r0⟩ := and_e hg
  obtain ⟨g1, r1⟩ := and_e r0
  obtain ⟨g2, g3⟩ := and_e r1
  obtain ⟨w0, w1, w2, rfl⟩ : ∃ w0 w1 w2 : Value, args = #[w0, w1, w2] := by
    have hs : args.size = 3 := by simpa [Cond.value, given_1] using g0
    obtain ⟨L⟩ := args
    match L, hs with
    | [w0, w1, w2], _ => exact ⟨w0, w1, w2, rfl⟩
  have hw := fun d (hd : d ∈ tables_1) => atoms_spec (ws := Jvm.Cond.code x code maxLocals ret :: tables_1) hat d (List.mem_cons_of_mem _ hd)
  have hfit : Fit s := fun {y c} hc i hi => by
    obtain ⟨ha, rfl⟩ := Array.getElem?_eq_some_iff.mp hc
    have q := List.all_eq_true.mp ((Array.all_eq_true_iff_forall_mem.mp hF) _ (Array.getElem_mem ha)) i (List.mem_range.mpr hi)
    simpa [Array.getElem?_eq_getElem hi] using q
  obtain ⟨i0, ei0⟩ := isL_v g1
  obtain rfl : w0 = (.long i0) := Option.some.inj ei0
  obtain ⟨i1, ei1⟩ := is_v g2
  obtain rfl : w1 = (.int i1) := Option.some.inj ei1
  obtain ⟨i2, ei2⟩ := isL_v g3
  obtain rfl : w2 = (.long i2) := Option.some.inj ei2
  obtain ⟨n, o, h1, h2, h3, _, L, rfl, ⟨rfl, N⟩, hq⟩ := rm0 l s _ hw tables_1 i0 i1 i2 s.heap s.heap.size (Nat.le_refl _)  p e ha hc hk s m _ below hf ((Spec.applies_iff_loose hf).mp happ).1 ⟨rfl, State.Warmed39.refl s, rfl⟩ trivial
  refine ⟨n, _, h1, h2, h3, hpost _ _ _ _ _ _ ⟨Cond.after_iff.mpr rfl, Cond.after_iff.mpr (eq_i res_at (Term.int_eval (1)) rfl)⟩ ⟨hq.1, hq.2.1, (hq.2.2.sift fun y hy => Or.inr (N y hy)).mono (by decide) (by decide)⟩⟩
theorem main_1_1 : Claimed_1_1 := comes_1 fun _ _ _ _ _ _ h hF => ⟨h.1, hF⟩
theorem main_1_2 : Claimed_1_2 := comes_1 fun _ _ _ _ _ _ h hF => ⟨h.2, hF⟩
end Jvm.Pilot.@@N@@
namespace Jvm.Pilot.@@N@@
open Jvm Jvm.ClassFile Sem Op Lib Jvm.Free Jvm.Stand Jvm.Pilot.@@N@@.Jvm.D
/-! MADE BY PROGRAM (witnessworld.py) out of the Statement's table words and the real class files: 9 classes; the members and pool entries that the words name. The judged class is class 1, her method 1. -/
namespace start1
open Jvm.ClassFile
def u (s : String) : CpInfo := .utf8 (stringToUtf16 s)
/-- a pool by its gaps: so many unusable entries, then the entry; so many at the end -/
def gap : Nat → List CpInfo → List CpInfo
  | 0, r => r
  | n + 1, r => .unusable :: gap n r
def poolList (es : List (Nat × CpInfo)) (last : Nat) : List CpInfo := es.foldr (fun e r => gap e.1 (e.2 :: r)) (gap last [])
def pool (es : List (Nat × CpInfo)) (last : Nat) : Array CpInfo := ⟨poolList es last⟩
def fileOf (pool : Array CpInfo) (this : Nat) (attrs : Array Attribute := #[]) (ms : Array MethodInfo := #[]) (fl : Nat := 33) (sup : Nat := 0) (ifs : Array Nat := #[]) (fds : Array FieldInfo := #[]) : ClassFile where
  minorVersion := 0
  majorVersion := 65
  constantPool := pool
  accessFlags := fl
  thisClass := this
  superClass := sup
  interfaces := ifs
  fields := fds
  methods := ms
  attributes := attrs
def plain (name : String) (sup : Option ClassId) : Class where
  name := name
  kind := .ordinary
  loader := none
  accessFlags := 33
  super := sup
  interfaces := #[]
  cf := none
  fields := #[]
  methods := #[]
  instanceTypes := #[]
  staticTypes := #[]
  resolved := #[]
  callSites := []
  init := .initialized
  statics := none
  mirror := none

def pool0 : Array CpInfo := pool [(5, u "<init>"), (0, u "()V"), (1, .class_ 10), (1, u "java/lang/Object")] 113

def k0m0 : Method := { name := "<init>", desc := "()V", sig := { parameters := [], returnType := none }, accessFlags := 1, code := none }
/-- java/lang/Object -/
def k0 : Class := { plain "java/lang/Object" none with
  accessFlags := 33
  interfaces := #[]
  cf := some (fileOf pool0 8 #[] #[{ accessFlags := 1, nameIndex := 5, descriptorIndex := 6, attributes := #[] }] 33 0 #[] #[])
  fields := #[]
  methods := #[k0m0]
  instanceTypes := #[]
  staticTypes := #[]
  resolved := Array.replicate 124 none
  statics := none }

def pool1 : Array CpInfo := pool [(2, .class_ 4), (1, u "java/lang/Object"), (0, u "<init>"), (0, u "()V"), (0, .methodref 8 9), (0, .class_ 10), (0, .nameAndType 11 12), (0, u "com/example/interval/interval/core/StoreFormat"), (0, u "decodeLong"), (0, u "([BI)J"), (0, .class_ 14), (0, u "com/example/interval/interval/core/StoreFormatDecodeLongPinLaw"), (2, u "law"), (0, u "(JIJ)Z")] 5

def k1m0 : Method := { name := "<init>", desc := "()V", sig := { parameters := [], returnType := none }, accessFlags := 1, code := none }
def k1c1 : Code := { maxStack := 5, maxLocals := 7, code := code, exceptionTable := #[], attributes := #[] }
def k1m1 : Method := { name := "law", desc := "(JIJ)Z", sig := { parameters := [.long, .int, .long], returnType := some .boolean }, accessFlags := 9, code := some k1c1 }
/-- com/example/interval/interval/core/StoreFormatDecodeLongPinLaw -/
def k1 : Class := { plain "com/example/interval/interval/core/StoreFormatDecodeLongPinLaw" (some 0) with
  accessFlags := 49
  interfaces := #[]
  cf := some (fileOf pool1 13 #[] #[{ accessFlags := 1, nameIndex := 5, descriptorIndex := 6, attributes := #[] }, { accessFlags := 9, nameIndex := 17, descriptorIndex := 18, attributes := #[] }] 49 2 #[] #[])
  fields := #[]
  methods := #[k1m0, k1m1]
  instanceTypes := #[]
  staticTypes := #[]
  resolved := Array.replicate 24 none
  statics := none }

def pool2 : Array CpInfo := pool [(4, .class_ 6), (1, u "java/lang/Object"), (0, u "<init>"), (0, u "()V"), (0, .class_ 10), (0, u "com/example/interval/interval/core/StoreFormat"), (32, u "decodeLong"), (0, u "([BI)J"), (4, .class_ 50), (0, u "com/example/interval/interval/core/StoreFormat$Output"), (56, .class_ 108), (0, u "com/example/interval/interval/core/StoreFormat$Input"), (5, u "I"), (139, u "[B"), (54, u "FORMAT_KEY"), (2, u "NEXT_DOCUMENT_KEY"), (2, u "DOCUMENTS_PREFIX"), (0, u "FORMAT_VERSION"), (2, u "PAGE_NODES"), (1, u "PAGE_BYTES"), (1, u "META"), (0, u "B"), (1, u "DOCUMENTS"), (1, u "DOCUMENT_NAMES"), (1, u "NODES"), (1, u "ELEMENTS"), (1, u "PIECES"), (1, u "PATHS"), (1, u "NODE_PREFIX_LENGTH")] 87

def k2m0 : Method := { name := "<init>", desc := "()V", sig := { parameters := [], returnType := none }, accessFlags := 2, code := none }
def k2c1 : Code := { maxStack := 5, maxLocals := 5, code := prog_51_method_30_code, exceptionTable := #[], attributes := #[] }
def k2m1 : Method := { name := "decodeLong", desc := "([BI)J", sig := { parameters := [(.array .byte), .int], returnType := some .long }, accessFlags := 8, code := some k2c1 }
/-- com/example/interval/interval/core/StoreFormat -/
def k2 : Class := { plain "com/example/interval/interval/core/StoreFormat" (some 0) with
  accessFlags := 32
  interfaces := #[]
  cf := some (fileOf pool2 9 #[.nestMembers #[107, 49]] #[{ accessFlags := 2, nameIndex := 7, descriptorIndex := 8, attributes := #[] }, { accessFlags := 8, nameIndex := 43, descriptorIndex := 44, attributes := #[] }] 32 4 #[] #[{ accessFlags := 24, nameIndex := 316, descriptorIndex := 114, attributes := #[] }, { accessFlags := 24, nameIndex := 319, descriptorIndex := 114, attributes := #[] }, { accessFlags := 24, nameIndex := 321, descriptorIndex := 114, attributes := #[] }, { accessFlags := 26, nameIndex := 323, descriptorIndex := 324, attributes := #[] }, { accessFlags := 26, nameIndex := 326, descriptorIndex := 324, attributes := #[] }, { accessFlags := 26, nameIndex := 328, descriptorIndex := 324, attributes := #[] }, { accessFlags := 26, nameIndex := 330, descriptorIndex := 324, attributes := #[] }, { accessFlags := 26, nameIndex := 332, descriptorIndex := 324, attributes := #[] }, { accessFlags := 26, nameIndex := 334, descriptorIndex := 324, attributes := #[] }, { accessFlags := 26, nameIndex := 336, descriptorIndex := 324, attributes := #[] }, { accessFlags := 24, nameIndex := 309, descriptorIndex := 254, attributes := #[] }, { accessFlags := 24, nameIndex := 312, descriptorIndex := 254, attributes := #[] }, { accessFlags := 24, nameIndex := 315, descriptorIndex := 254, attributes := #[] }, { accessFlags := 24, nameIndex := 338, descriptorIndex := 114, attributes := #[] }])
  fields := #[{ name := "FORMAT_VERSION", type := .int, accessFlags := 24, slot := 0, constantValue := 0 }, { name := "PAGE_NODES", type := .int, accessFlags := 24, slot := 1, constantValue := 0 }, { name := "PAGE_BYTES", type := .int, accessFlags := 24, slot := 2, constantValue := 0 }, { name := "META", type := .byte, accessFlags := 26, slot := 3, constantValue := 0 }, { name := "DOCUMENTS", type := .byte, accessFlags := 26, slot := 4, constantValue := 0 }, { name := "DOCUMENT_NAMES", type := .byte, accessFlags := 26, slot := 5, constantValue := 0 }, { name := "NODES", type := .byte, accessFlags := 26, slot := 6, constantValue := 0 }, { name := "ELEMENTS", type := .byte, accessFlags := 26, slot := 7, constantValue := 0 }, { name := "PIECES", type := .byte, accessFlags := 26, slot := 8, constantValue := 0 }, { name := "PATHS", type := .byte, accessFlags := 26, slot := 9, constantValue := 0 }, { name := "FORMAT_KEY", type := (.array .byte), accessFlags := 24, slot := 10, constantValue := 0 }, { name := "NEXT_DOCUMENT_KEY", type := (.array .byte), accessFlags := 24, slot := 11, constantValue := 0 }, { name := "DOCUMENTS_PREFIX", type := (.array .byte), accessFlags := 24, slot := 12, constantValue := 0 }, { name := "NODE_PREFIX_LENGTH", type := .int, accessFlags := 24, slot := 13, constantValue := 0 }]
  methods := #[k2m0, k2m1]
  instanceTypes := #[]
  staticTypes := #[.int, .int, .int, .byte, .byte, .byte, .byte, .byte, .byte, .byte, (.array .byte), (.array .byte), (.array .byte), .int]
  resolved := Array.replicate 426 none
  statics := none }

def pool3 : Array CpInfo := pool [(1, u "java/lang/Cloneable"), (0, .class_ 1), (0, u "java/lang/Object"), (0, .class_ 3)] 3

/-- java/lang/Cloneable -/
def k3 : Class := { plain "java/lang/Cloneable" (some 0) with
  accessFlags := 1537
  interfaces := #[]
  cf := some (fileOf pool3 2 #[] #[] 1537 4 #[] #[])
  fields := #[]
  methods := #[]
  instanceTypes := #[]
  staticTypes := #[]
  resolved := Array.replicate 8 none
  statics := none }

def pool4 : Array CpInfo := pool [(1, u "java/io/Serializable"), (0, .class_ 1), (0, u "java/lang/Object"), (0, .class_ 3)] 3

/-- java/io/Serializable -/
def k4 : Class := { plain "java/io/Serializable" (some 0) with
  accessFlags := 1537
  interfaces := #[]
  cf := some (fileOf pool4 2 #[] #[] 1537 4 #[] #[])
  fields := #[]
  methods := #[]
  instanceTypes := #[]
  staticTypes := #[]
  resolved := Array.replicate 8 none
  statics := none }

/-- the primitive byte -/
def k5 : Class := { plain "byte" none with kind := .primitive 'B', accessFlags := 0x411 }
/-- [B -/
def k6 : Class := { plain "[B" (some 0) with kind := .array 5 .byte, interfaces := #[3, 4], accessFlags := 1041 }

/-- the primitive int -/
def k7 : Class := { plain "int" none with kind := .primitive 'I', accessFlags := 0x411 }
/-- [I -/
def k8 : Class := { plain "[I" (some 0) with kind := .array 7 .int, interfaces := #[3, 4], accessFlags := 1041 }

def heap : Heap := #[]
def classes : Array Class := #[k0, k1, k2, k3, k4, k5, k6, k7, k8]
def interned : List (Array UInt16 × Addr) := []
def slotsUsed : Nat := 0
def theMethod : MethodId := ⟨1, 1⟩
def args0 : Array Value := #[.long 5, .int 7, .long 9]
def aboutOver (below : List Frame) : State where
  vm := { classes := classes, interned := interned.toArray }
  heap := heap
  slotsUsed := slotsUsed
  threads := #[{ frames := .invoking theMethod args0 :: below }]
def below0 : List Frame := [.native { method := ⟨0, 0⟩, args := #[] }]
def about1 : State := aboutOver below0
def p0 : Program := .bare "" "" ""
def e0 : Env := launch0.env 0 0 0
theorem w_frames : about1.frames = Frame.invoking theMethod args0 :: below0 := rfl
set_option maxRecDepth 65536 in
theorem w_args : argsFit about1.vm theMethod args0 = true := by decide +kernel
set_option maxRecDepth 65536 in
theorem w_heap : heapFits about1 = true := by decide +kernel
set_option maxRecDepth 65536 in
theorem w_runnable : about1.curStatus? = some .runnable := by decide +kernel
set_option maxRecDepth 65536 in
theorem w_alone : about1.alone = true := by decide +kernel
set_option maxRecDepth 65536 in
theorem w_named : about1.methodNamed? x = some theMethod := by decide +kernel
set_option maxRecDepth 65536 in
theorem w_hears : about1.hears theMethod below0 = true := by decide +kernel
set_option maxRecDepth 65536 in
theorem w_ripe : about1.ripe theMethod args0 below0 = true := by decide +kernel
theorem w_running : about1.status = .running := rfl
set_option maxRecDepth 65536 in
theorem w_room : about1.hasRoom e0.platform room_1 = true :=
  launch0.hasRoom_least _ room_1 (by decide +kernel) (by decide +kernel) (by decide +kernel) (by decide +kernel) (by decide +kernel) (by decide +kernel)
theorem allAtoms_all (ts : List Jvm.Cond) (a : Array Jvm.Value) (st : Jvm.State) : (allAtoms ts).before a st = ts.all (fun c => c.before a st) := by
  induction ts with
  | nil => rfl
  | cons c t ih =>
    show (Jvm.Cond.and c (allAtoms t)).before a st = _
    rw [Jvm.Cond.before_and, ih, List.all_cons]
def words1 : List Jvm.Cond := Jvm.Cond.code x code maxLocals ret :: tables_1
/-- a 'code' word, met by the world's own term for the bytes: nothing is compared byte by byte -/
theorem code_word {y : MethodName} {bytes : ByteArray} {mx : Nat} {rt : Option FieldType} {a : Array Value} {s : State} {m : MethodId} {meth : Method} {c : Code} (h1 : s.methodNamed? y = some m) (h2 : s.vm.method? m = some meth) (h3 : meth.code = some c) (h4 : c.code = bytes)
    (h5 : (c.maxLocals == mx && c.exceptionTable.isEmpty && decide (c.maxStack ≤ mostOperands) && decide (meth.sig.returnType = rt) && !meth.locks && decide (parseMethodDescriptor y.desc = some meth.sig)) = true) : (Jvm.Cond.code y bytes mx rt).before a s = true := by
  simp only [Bool.and_eq_true, beq_iff_eq, Bool.not_eq_true', decide_eq_true_eq] at h5
  obtain ⟨⟨⟨⟨⟨g1, g2⟩, g3⟩, g4⟩, g5⟩, g6⟩ := h5
  simp [Cond.before, Cond.holds, Cond.value, h1, h2, h3, h4, g1, g2, g3, g4, g5, g6]
def isCode : Jvm.Cond → Bool
  | .code _ _ _ _ => true
  | _ => false
theorem all_split {L : List Jvm.Cond} {P : Jvm.Cond → Bool} (h1 : L.all (fun c => isCode c || P c) = true) (h2 : ∀ c ∈ L.filter isCode, P c = true) : L.all P = true := by
  refine List.all_eq_true.mpr fun c hc => ?_
  have h := List.all_eq_true.mp h1 c hc
  rcases Bool.eq_false_or_eq_true (isCode c) with hi | hi
  · exact h2 c (List.mem_filter.mpr ⟨hc, hi⟩)
  · simpa [hi] using h
set_option maxRecDepth 65536 in
theorem w_c0 : (Jvm.Cond.code x code maxLocals ret).before args0 about1 = true := code_word (m := ⟨1, 1⟩) (meth := k1m1) (c := k1c1) (by decide +kernel) rfl rfl rfl (by decide +kernel)
set_option maxRecDepth 65536 in
theorem w_c1 : (Jvm.Cond.code ({ cls := "com/example/interval/interval/core/StoreFormat", name := "decodeLong", desc := "([BI)J" } : Jvm.MethodName) prog_51_method_30_code (5 : Nat) (Option.some Jvm.ClassFile.FieldType.long)).before args0 about1 = true := code_word (m := ⟨2, 1⟩) (meth := k2m1) (c := k2c1) (by decide +kernel) rfl rfl rfl (by decide +kernel)
def codes1 : List Jvm.Cond := [Jvm.Cond.code x code maxLocals ret, Jvm.Cond.code ({ cls := "com/example/interval/interval/core/StoreFormat", name := "decodeLong", desc := "([BI)J" } : Jvm.MethodName) prog_51_method_30_code (5 : Nat) (Option.some Jvm.ClassFile.FieldType.long)]
set_option maxRecDepth 65536 in
theorem codes_eq : words1.filter isCode = codes1 := rfl
theorem w_codes : ∀ c ∈ words1.filter isCode, c.before args0 about1 = true := by
  rw [codes_eq]
  intro c hc
  simp only [codes1, List.mem_cons, List.not_mem_nil, or_false] at hc
  rcases hc with rfl | rfl
  · exact w_c0
  · exact w_c1
set_option maxRecDepth 65536 in
theorem w_t1 : words1.all (fun c => isCode c || c.before args0 about1) = true := by decide +kernel
theorem w_tables : (allAtoms (Jvm.Cond.code x code maxLocals ret :: tables_1)).before args0 about1 = true := by
  rw [allAtoms_all]
  show words1.all (fun c => c.before args0 about1) = true
  refine all_split ?_ w_codes
  rw [w_t1]
set_option maxRecDepth 65536 in
theorem w_case : (Jvm.Cond.and given_1 narrow_1).before args0 about1 = true := by decide +kernel
theorem w_applies : (headSpec (Jvm.Cond.code x code maxLocals ret :: tables_1) room_1).applies x e0.platform about1 = true :=
  (Spec.applies_iff w_frames).mpr ⟨w_running, w_runnable, w_alone, w_named, w_hears, w_ripe, w_room, w_tables⟩
theorem atStart : AtStart classFile x code maxLocals ret World_1 tables_1 room_1 Calls_1 rest_1 Pre_1 launch0 p0 e0 about1 theMethod args0 below0 :=
  ⟨lists_1, trivial, launch0.admits_env _ _ _, launch0.least_env, fairChoices_fair.cas, fairChoices_fair.clock, w_frames, w_args, w_heap, w_applies, trivial, trivial, w_case⟩
end start1
theorem witness_1 : WitnessClaimed_1 := ⟨start1.p0, start1.e0, start1.about1, start1.theMethod, start1.args0, start1.below0, start1.atStart⟩
end Jvm.Pilot.@@N@@
