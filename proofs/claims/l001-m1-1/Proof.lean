import JvmDerived
import JvmDerived.Pilot.@@N@@Statement
import JvmDerived.Pilot.@@N@@Code
set_option linter.unusedVariables false
set_option linter.unusedSimpArgs false
namespace Jvm.OwnKit
open Sem ClassFile Op Lib Jvm.Stand Jvm.Free Jvm.LawKit Jvm.RoadKit
theorem irem_mod (x y : Int32) : x - x / y * y = x % y := by
  have hm : (x % y).toInt = x.toInt - x.toInt.tdiv y.toInt * y.toInt := by
    rw [Int32.toInt_mod, Int.tmod_def, Int.mul_comm]
  have hb := Int32.toInt_lt (x % y)
  have hl := Int32.le_toInt (x % y)
  have e : (x - x / y * y).toInt = (x % y).toInt.bmod (2 ^ 32) := by
    rw [hm, Int32.toInt_sub, Int32.toInt_mul, Int32.toInt_div, Int.sub_bmod_bmod, Int.sub_eq_add_neg, Int.sub_eq_add_neg]
    rw [← Int.add_bmod_bmod, ← Int.add_bmod_bmod (y := -(x.toInt.tdiv y.toInt * y.toInt))]
    congr 2
    rw [← Int.neg_mul, ← Int.neg_mul]
    rw [← Int.bmod_mul_bmod, Int.bmod_neg_bmod, Int.bmod_mul_bmod]
  apply Int32.toInt_inj.mp
  rw [e]
  exact Int.bmod_eq_of_le_mul_two (by omega) (by omega)
/-- what a body's end says -/
def Done (s : State) (below : List Frame) (Q : Option Value → Heap → List Loc → Prop) (C S : Nat) (t : State) (o : Outcome) : Prop :=
  t.status = .running ∧ Ended t below o ∧ ∃ v L, o = .returned v ∧ Q v t.heap L ∧ FrameEnd s o t L C S
/-- from here the run ends as asked -/
def Go (tb : Tables) (e : Env) (below : List Frame) (s : State) (Q : Option Value → Heap → List Loc → Prop) (C S : Nat) (A : State) : Prop :=
  ∃ t o, Steps tb e below A t ∧ Done s below Q C S t o
theorem Go.of {tb : Tables} {e : Env} {below : List Frame} {s : State} {Q : Option Value → Heap → List Loc → Prop} {C S : Nat} {A B : State}
    (g : ∀ t, Steps tb e below B t → Steps tb e below A t) (h : Go tb e below s Q C S B) : Go tb e below s Q C S A := by
  obtain ⟨t, o, h1, h2⟩ := h
  exact ⟨t, o, g t h1, h2⟩
theorem Go.push {tb : Tables} {e : Env} {below : List Frame} {s : State} {Q : Option Value → Heap → List Loc → Prop} {C S : Nat} {T : State} {m : MethodId} {pc pc' : Nat} {Ls : Array Slot} {v : Value} {st : List Value} (hp : pc = pc') (h : Go tb e below s Q C S (T.setTop (mkF m pc' Ls (v :: st)))) : Go tb e below s Q C S (T.setTop (mkF m pc Ls ((some v).toList ++ st))) := hp ▸ h
theorem Go.void {tb : Tables} {e : Env} {below : List Frame} {s : State} {Q : Option Value → Heap → List Loc → Prop} {C S : Nat} {T : State} {m : MethodId} {pc pc' : Nat} {Ls : Array Slot} {st : List Value} (hp : pc = pc') (h : Go tb e below s Q C S (T.setTop (mkF m pc' Ls st))) : Go tb e below s Q C S (T.setTop (mkF m pc Ls ((none : Option Value).toList ++ st))) := hp ▸ h
theorem Go.join {tb : Tables} {e : Env} {below : List Frame} {s : State} {Q : Option Value → Heap → List Loc → Prop} {C S : Nat} {A : State} {α : Type} {P : α → Prop} {F : α → State}
    (h1 : ∀ x, P x → Go tb e below s Q C S (F x)) (h2 : (∀ x, P x → Go tb e below s Q C S (F x)) → Go tb e below s Q C S A) : Go tb e below s Q C S A := h2 h1
theorem Go.loop {tb : Tables} {e : Env} {below : List Frame} {s : State} {Q : Option Value → Heap → List Loc → Prop} {C S : Nat} {α : Type} {P : Nat → α → Prop} {F : α → State}
    (h : ∀ k x, P k x → (∀ j y, j < k → P j y → Go tb e below s Q C S (F y)) → Go tb e below s Q C S (F x)) : ∀ k x, P k x → Go tb e below s Q C S (F x) := by
  intro k
  induction k using Nat.strongRecOn with
  | ind k ih => exact fun x hp => h k x hp fun j y hj hy => ih j hj y hy
section Ret
variable {p : Program} {l : Launch} {e : Env} {R : Room} {s : State} {m : MethodId} {args : Array Value} {below : List Frame} {meth : Method} {c : Code} {T : State} {locs : List Loc} {cells slots : Nat} {Q : Option Value → Heap → List Loc → Prop} {C S : Nat}
theorem Go.retV (X : Stand p l e R s m args below meth c T locs cells slots) (hx : p.tables.exec = Jvm.exec) (hlk : meth.locks = false) {pc : Nat} {Ls : Array Slot} {st : List Value} (hret : meth.sig.returnType = none)
    (hd : decode c.code pc = .ok (.return_, 1)) (hs : st = []) (hc : cells ≤ C) (hn : slots ≤ S) (hq : Q none T.heap locs) : Go p.tables e below s Q C S (T.setTop (mkF m pc Ls st)) := by
  subst hs
  obtain ⟨fs, hr, hrun, hended, hW, hsame⟩ := X.leave (v := none) (fun _ => rfl)
  exact ⟨_, _, X.returnOut hx hret hd hr, hrun, hended, _, _, rfl, hq, ⟨_, rfl⟩, hW, hsame.mono hc hn⟩
theorem Go.retW (X : Stand p l e R s m args below meth c T locs cells slots) (hx : p.tables.exec = Jvm.exec) (hlk : meth.locks = false) {pc : Nat} {Ls : Array Slot} {w : Value} {t : FieldType} {i : Instr} {rest : List Value}
    (hret : meth.sig.returnType = some t) (hn : narrow t w = w)
    (hi : (i = .ireturn ∧ (t = .int ∨ t = .boolean ∨ t = .byte ∨ t = .char ∨ t = .short) ∧ ∃ z, w = .int z) ∨ (i = .lreturn ∧ t = .long ∧ ∃ z, w = .long z) ∨ (i = .dreturn ∧ t = .double ∧ ∃ z, w = .double z) ∨ (i = .freturn ∧ t = .float ∧ ∃ z, w = .float z) ∨ (i = .areturn ∧ t.isReference = true ∧ w.isRef = true))
    (hd : decode c.code pc = .ok (i, 1)) (hc : cells ≤ C) (hsl : slots ≤ S) (hq : Q (some w) T.heap locs) : Go p.tables e below s Q C S (T.setTop (mkF m pc Ls (w :: rest))) := by
  obtain ⟨fs, hr, hrun, hended, hW, hsame⟩ := X.leave (v := some w) (fun h => by rw [hret] at h; cases h)
  exact ⟨_, _, retOut X hx hret hn hi hd hr, hrun, hended, _, _, rfl, hq, ⟨_, rfl⟩, hW, hsame.mono hc hsl⟩
theorem Go.retI (X : Stand p l e R s m args below meth c T locs cells slots) (hx : p.tables.exec = Jvm.exec) (hlk : meth.locks = false) {pc : Nat} {Ls : Array Slot} {z : Int32} {rest : List Value}
    (hret : meth.sig.returnType = some .int) (hd : decode c.code pc = .ok (.ireturn, 1)) (hc : cells ≤ C) (hsl : slots ≤ S) (hq : Q (some (.int z)) T.heap locs) : Go p.tables e below s Q C S (T.setTop (mkF m pc Ls (.int z :: rest))) :=
  Go.retW X hx hlk hret rfl (Or.inl ⟨rfl, Or.inl rfl, _, rfl⟩) hd hc hsl hq
theorem Go.retZ (X : Stand p l e R s m args below meth c T locs cells slots) (hx : p.tables.exec = Jvm.exec) (hlk : meth.locks = false) {pc : Nat} {Ls : Array Slot} {z : Int32} {rest : List Value} {t : FieldType}
    (hret : meth.sig.returnType = some t) (ht : t = .boolean ∨ t = .byte ∨ t = .char ∨ t = .short) (hd : decode c.code pc = .ok (.ireturn, 1)) (hc : cells ≤ C) (hsl : slots ≤ S) (hq : Q (some (.int (nar t z))) T.heap locs) : Go p.tables e below s Q C S (T.setTop (mkF m pc Ls (.int z :: rest))) := by
  obtain ⟨fs, hr, hrun, hended, hW, hsame⟩ := X.leave (v := some (.int (nar t z))) (fun h => by rw [hret] at h; cases h)
  exact ⟨_, _, retN X hx hret ht hd hr, hrun, hended, _, _, rfl, hq, ⟨_, rfl⟩, hW, hsame.mono hc hsl⟩
theorem Go.retL (X : Stand p l e R s m args below meth c T locs cells slots) (hx : p.tables.exec = Jvm.exec) (hlk : meth.locks = false) {pc : Nat} {Ls : Array Slot} {z : Int64} {rest : List Value}
    (hret : meth.sig.returnType = some .long) (hd : decode c.code pc = .ok (.lreturn, 1)) (hc : cells ≤ C) (hsl : slots ≤ S) (hq : Q (some (.long z)) T.heap locs) : Go p.tables e below s Q C S (T.setTop (mkF m pc Ls (.long z :: rest))) :=
  Go.retW X hx hlk hret rfl (Or.inr (Or.inl ⟨rfl, rfl, _, rfl⟩)) hd hc hsl hq
theorem Go.retA (X : Stand p l e R s m args below meth c T locs cells slots) (hx : p.tables.exec = Jvm.exec) (hlk : meth.locks = false) {pc : Nat} {Ls : Array Slot} {w : Value} {rest : List Value} {t : FieldType}
    (hret : meth.sig.returnType = some t) (ht : t.isReference = true) (hw : w.isRef = true) (hd : decode c.code pc = .ok (.areturn, 1)) (hc : cells ≤ C) (hsl : slots ≤ S) (hq : Q (some w) T.heap locs) : Go p.tables e below s Q C S (T.setTop (mkF m pc Ls (w :: rest))) :=
  Go.retW X hx hlk hret (by cases t <;> first | rfl | (simp [FieldType.isReference] at ht)) (Or.inr (Or.inr (Or.inr (Or.inr ⟨rfl, ht, hw⟩)))) hd hc hsl hq
end Ret
/-- the contract of a body, by its walk -/
theorem meet {l : Launch} {Z : State} {y : MethodName} {bytes : ByteArray} {maxL : Nat} {ret : Option FieldType} {ws : List Cond} {rm : Room} {as : Array Value} {Ls : Array Slot} {h0 : Heap} {Q : Option Value → Heap → List Loc → Prop}
    (hpl : plainFor y = true) (ef : ∀ m, entryFrame m as maxL = mkF m 0 Ls [])
    (body : ∀ (p : Program) (e : Env) (s : State) (m : MethodId) (below : List Frame) (meth : Method) (c : Code) (T : State), p.tables.exec = Jvm.exec → c.code = bytes → c.maxLocals = maxL → Z.Warmed39 s.vm → s.vm.findClass y.cls = some m.cls → meth.name = y.name →
      meth.sig.returnType = ret → meth.locks = false → Stand p l e rm s m as below meth c T [] 0 0 → T.heap = h0 → Go p.tables e below s Q rm.cells rm.slots (T.setTop (mkF m 0 Ls []))) :
    MetFree l y (head1 (Cond.code y bytes maxL ret :: ws) rm) (fun a U => a = as ∧ Z.Warmed39 U.vm ∧ U.heap = h0) (fun _ _ _ _ _ => True) (fun _ U o U' => ∃ v L, o = .returned v ∧ Q v U'.heap L ∧ FrameEnd U o U' L rm.cells rm.slots) := by
  refine MetFree.of_bodySF hpl hisR ?_
  intro p e s m args below meth c s₁ Bd hml0 hP hK
  obtain ⟨rfl, hZ, hh⟩ := hP
  obtain ⟨t, o, h1, h2, h3, h4⟩ := body p e s m below meth c s₁ Bd.exec Bd.bytes hml0 hZ (findClass_of_methodNamed Bd.named) (name_of_methodNamed Bd.named Bd.method).1 Bd.returns Bd.notSynchronized (Stand.of_body Bd) (by rw [← hh, Bd.state]; rfl)
  exact ⟨t, o, castTop (ef m) h1, h2, h3, h4⟩
/-- what a callee's contract says -/
abbrev Con (l : Launch) (Z : State) (y : MethodName) (bytes : ByteArray) (maxL : Nat) (ret : Option FieldType) (rm : Room) (as : Array Value) (h0 : Heap) (Q : Option Value → Heap → List Loc → Prop) : Prop :=
  MetFree l y (head1 [Cond.code y bytes maxL ret] rm) (fun a U => a = as ∧ Z.Warmed39 U.vm ∧ U.heap = h0) (fun _ _ _ _ _ => True) (fun _ U o U' => ∃ v L, o = .returned v ∧ Q v U'.heap L ∧ FrameEnd U o U' L rm.cells rm.slots)
section Call
variable {p : Program} {l : Launch} {e : Env} {R : Room} {s : State} {m : MethodId} {args : Array Value} {below : List Frame} {meth : Method} {c : Code} {T : State} {locs : List Loc} {cells slots : Nat} {Q : Option Value → Heap → List Loc → Prop} {C S : Nat} {Z : State} {a0 : Array Value} {h : Heap}
theorem Go.callS (X : Stand p l e R s m args below meth c T locs cells slots) (hx : p.tables.exec = Jvm.exec) (hZ : Z.Warmed39 s.vm) {own : String} {index : Nat} {y : MethodName} {bytes : ByteArray} {maxL : Nat} {ret : Option FieldType} {rm : Room} {Q' : Option Value → Heap → List Loc → Prop}
    (hown : s.vm.findClass own = some m.cls) (w1 : (Cond.methodLink own index y).before a0 Z = true) (w2 : (Cond.static y).before a0 Z = true) (w3 : (Cond.initialized y.cls).before a0 Z = true)
    (w4 : (Cond.code y bytes maxL ret).before a0 Z = true) (hy : y.cls ≠ "java/lang/invoke/MethodHandle" ∧ y.cls ≠ "java/lang/invoke/VarHandle")
    (eT : T.heap = h) {pc : Nat} {Ls : Array Slot} {argsL rest st : List Value} {W : Nat} {ps : List FieldType} (hM : Con l Z y bytes maxL ret rm argsL.toArray h Q') (hd : decode c.code pc = .ok (.invokestatic index, 3))
    (hsz : Ls.size = c.maxLocals) (hst : st = argsL.reverse ++ rest) (hpd : parseMethodDescriptor y.desc = some ⟨ps, ret⟩) (hlen : argsL.length = ps.length) (hW : (rest.map fun v => v.category).sum = W)
    (hf : rm.frames + 1 ≤ R.frames) (hl : W + (maxL + 11) + rm.locals ≤ R.locals) (hc : cells + rm.cells ≤ R.cells) (hn : slots + rm.slots ≤ R.slots)
    (k : ∀ (v : Option Value) (T' : State) (L' : List Loc), Stand p l e R s m args below meth c T' (locs ++ L') (cells + rm.cells) (slots + rm.slots) → Q' v T'.heap L' → Go p.tables e below s Q C S (T'.setTop (mkF m (pc + 3) Ls (v.toList ++ rest)))) :
    Go p.tables e below s Q C S (T.setTop (mkF m pc Ls st)) := by
  obtain ⟨v, _, ⟨T', L', kc, kn⟩, -, X', ⟨Lc, hQ, l3, y3, z3⟩, st⟩ := Jvm.LawKit.callS X hx hown (mvT hZ w1) (mvT hZ w2) (mvT hZ w3) (mvT hZ w4) hy (backOf (W := W) hM hZ w4 w3 hf hl) (g := mkF m pc Ls st) rfl hsz (argsL := argsL) (rest := rest) (lenOf hpd hlen) hst (by show 2 * 0 + _ ≤ _; rw [hW]; omega) hd (fun _ _ => ⟨rfl, eT, hc, hn⟩)
  dsimp only [Pt.U, Pt.locs, Pt.cells, Pt.slots] at X' l3 y3 z3 st hQ
  subst l3 y3 z3
  exact Go.of st (k v T' Lc X' hQ)
theorem Go.callI (X : Stand p l e R s m args below meth c T locs cells slots) (hx : p.tables.exec = Jvm.exec) (hZ : Z.Warmed39 s.vm) {own : String} {index : Nat} {y : MethodName} {bytes : ByteArray} {maxL : Nat} {rm : Room} {Q' : Option Value → Heap → List Loc → Prop}
    (hown : s.vm.findClass own = some m.cls) (hy1 : y.name = "<init>") (w1 : (Cond.methodLink own index y).before a0 Z = true) (w2 : (Cond.instanceMethod y).before a0 Z = true) (w3 : (Cond.initialized y.cls).before a0 Z = true)
    (w4 : (Cond.code y bytes maxL none).before a0 Z = true) (hy : y.cls ≠ "java/lang/invoke/MethodHandle" ∧ y.cls ≠ "java/lang/invoke/VarHandle")
    (eT : T.heap = h) {pc : Nat} {Ls : Array Slot} {a : Addr} {argsL rest st : List Value} {W : Nat} {ps : List FieldType} (hM : Con l Z y bytes maxL none rm (.ref a :: argsL).toArray h Q') (hd : decode c.code pc = .ok (.invokespecial index, 3))
    (hsz : Ls.size = c.maxLocals) (hst : st = argsL.reverse ++ .ref a :: rest) (hpd : parseMethodDescriptor y.desc = some ⟨ps, none⟩) (hlen : argsL.length = ps.length) (hW : (rest.map fun v => v.category).sum = W)
    (hf : rm.frames + 1 ≤ R.frames) (hl : W + (maxL + 11) + rm.locals ≤ R.locals) (hc : cells + rm.cells ≤ R.cells) (hn : slots + rm.slots ≤ R.slots)
    (k : ∀ (v : Option Value) (T' : State) (L' : List Loc), Stand p l e R s m args below meth c T' (locs ++ L') (cells + rm.cells) (slots + rm.slots) → Q' v T'.heap L' → Go p.tables e below s Q C S (T'.setTop (mkF m (pc + 3) Ls (v.toList ++ rest)))) :
    Go p.tables e below s Q C S (T.setTop (mkF m pc Ls st)) := by
  obtain ⟨v, _, ⟨T', L', kc, kn⟩, -, X', ⟨Lc, hQ, l3, y3, z3⟩, st⟩ := X.specialBack hx hy1 hown (mvT hZ w1) (mvT hZ w2) (mvT hZ w4) hy (backOf (W := W) hM hZ w4 w3 hf hl) (g := mkF m pc Ls st) rfl hsz (Steps.refl _) (a := a) (argsL := argsL) (rest := rest) (lenOf hpd hlen) hst (by show 2 * 0 + _ ≤ _; rw [hW]; omega) hd (fun _ _ => ⟨rfl, eT, hc, hn⟩)
  dsimp only [Pt.U, Pt.locs, Pt.cells, Pt.slots] at X' l3 y3 z3 st hQ
  subst l3 y3 z3
  exact Go.of (fun _ q => st.trans q) (k v T' Lc X' hQ)
theorem Go.callV (X : Stand p l e R s m args below meth c T locs cells slots) (hx : p.tables.exec = Jvm.exec) (hZ : Z.Warmed39 s.vm) {own K : String} {index : Nat} {y z : MethodName} {bytes : ByteArray} {maxL : Nat} {ret : Option FieldType} {rm : Room} {Q' : Option Value → Heap → List Loc → Prop}
    (hown : s.vm.findClass own = some m.cls) (w1 : (Cond.methodLink own index y).before a0 Z = true) (w2 : (Cond.declares y).before a0 Z = true) (nf : NotFace s y) (w5 : (Cond.selects K y z).before a0 Z = true) (w6 : (Cond.instanceMethod z).before a0 Z = true) (w3 : (Cond.initialized z.cls).before a0 Z = true)
    (w4 : (Cond.code z bytes maxL ret).before a0 Z = true) (hy : y.cls ≠ "java/lang/invoke/MethodHandle" ∧ y.cls ≠ "java/lang/invoke/VarHandle")
    (eT : T.heap = h) {pc : Nat} {Ls : Array Slot} {a : Addr} {argsL rest st : List Value} {W : Nat} {ps : List FieldType} {rt : Option FieldType} (E : Exa Z h a K) (hM : Con l Z z bytes maxL ret rm (.ref a :: argsL).toArray h Q') (hd : decode c.code pc = .ok (.invokevirtual index, 3))
    (hsz : Ls.size = c.maxLocals) (hst : st = argsL.reverse ++ .ref a :: rest) (hpd : parseMethodDescriptor y.desc = some ⟨ps, rt⟩) (hlen : argsL.length = ps.length) (hW : (rest.map fun v => v.category).sum = W)
    (hf : rm.frames + 1 ≤ R.frames) (hl : W + (maxL + 11) + rm.locals ≤ R.locals) (hc : cells + rm.cells ≤ R.cells) (hn : slots + rm.slots ≤ R.slots)
    (k : ∀ (v : Option Value) (T' : State) (L' : List Loc), Stand p l e R s m args below meth c T' (locs ++ L') (cells + rm.cells) (slots + rm.slots) → Q' v T'.heap L' → Go p.tables e below s Q C S (T'.setTop (mkF m (pc + 3) Ls (v.toList ++ rest)))) :
    Go p.tables e below s Q C S (T.setTop (mkF m pc Ls st)) := by
  obtain ⟨cq, kq, qa, qb, qc⟩ := isOf hZ eT E
  obtain ⟨v, _, ⟨T', L', kc, kn⟩, -, X', ⟨Lc, hQ, l3, y3, z3⟩, st⟩ := X.virtualBack hx (y := y) (z := z) hown (mvT hZ w1) (mvT hZ w2) nf (mvT hZ w5) (mvT hZ w6) hy (backOf (W := W) hM hZ w4 w3 hf hl) qa qc (g := mkF m pc Ls st) rfl hsz (Steps.refl _) (argsL := argsL) (rest := rest) (lenOf hpd hlen) hst (by show 2 * 0 + _ ≤ _; rw [hW]; omega) hd (fun _ _ => ⟨rfl, eT, hc, hn⟩)
  dsimp only [Pt.U, Pt.locs, Pt.cells, Pt.slots] at X' l3 y3 z3 st hQ
  subst l3 y3 z3
  exact Go.of (fun _ q => st.trans q) (k v T' Lc X' hQ)
/-- a private method by invokevirtual -/
theorem Go.callP (X : Stand p l e R s m args below meth c T locs cells slots) (hx : p.tables.exec = Jvm.exec) (hZ : Z.Warmed39 s.vm) {own K : String} {index : Nat} {y : MethodName} {bytes : ByteArray} {maxL : Nat} {ret : Option FieldType} {rm : Room} {Q' : Option Value → Heap → List Loc → Prop}
    (hown : s.vm.findClass own = some m.cls) (w1 : (Cond.methodLink own index y).before a0 Z = true) (w6 : (Cond.instanceMethod y).before a0 Z = true) {kk : Nat} (w5 : (Cond.instantiable y.cls kk).before a0 Z = true) (w7 : (Cond.privateMethod y).before a0 Z = true) (w3 : (Cond.initialized y.cls).before a0 Z = true)
    (w4 : (Cond.code y bytes maxL ret).before a0 Z = true) (hy : y.cls ≠ "java/lang/invoke/MethodHandle" ∧ y.cls ≠ "java/lang/invoke/VarHandle")
    (eT : T.heap = h) {pc : Nat} {Ls : Array Slot} {a : Addr} {argsL rest st : List Value} {W : Nat} {ps : List FieldType} {rt : Option FieldType} (E : Exa Z h a K) (hM : Con l Z y bytes maxL ret rm (.ref a :: argsL).toArray h Q') (hd : decode c.code pc = .ok (.invokevirtual index, 3))
    (hsz : Ls.size = c.maxLocals) (hst : st = argsL.reverse ++ .ref a :: rest) (hpd : parseMethodDescriptor y.desc = some ⟨ps, rt⟩) (hlen : argsL.length = ps.length) (hW : (rest.map fun v => v.category).sum = W)
    (hf : rm.frames + 1 ≤ R.frames) (hl : W + (maxL + 11) + rm.locals ≤ R.locals) (hc : cells + rm.cells ≤ R.cells) (hn : slots + rm.slots ≤ R.slots)
    (k : ∀ (v : Option Value) (T' : State) (L' : List Loc), Stand p l e R s m args below meth c T' (locs ++ L') (cells + rm.cells) (slots + rm.slots) → Q' v T'.heap L' → Go p.tables e below s Q C S (T'.setTop (mkF m (pc + 3) Ls (v.toList ++ rest)))) :
    Go p.tables e below s Q C S (T.setTop (mkF m pc Ls st)) := by
  obtain ⟨cq, q1, q2⟩ := E.cell
  obtain ⟨c2, k2, i1, i2, -, i4, -⟩ := Cond.instantiable_spec (mvT (args := args) hZ w5)
  have hpv : s.PrivateAt y := Cond.privateMethod_at (mvP hZ w7 (args := #[]))
  have hsel : (Cond.selects y.cls y y).before args s = true := selects_self_of_private i1 i2 (by simpa using (Bool.or_eq_false_iff.mp i4).1) hpv (mvT hZ w6) hy
  obtain ⟨v, _, ⟨T', L', kc, kn⟩, -, X', ⟨Lc, hQ, l3, y3, z3⟩, st⟩ := X.privateBack hx (y := y) hown (mvT hZ w1) (mvT hZ w6) hsel hpv (mvT hZ w4) hy (backOf (W := W) hM hZ w4 w3 hf hl) (g := mkF m pc Ls st) rfl hsz (Steps.refl _) (a := a) (by rw [eT]; exact q1) q2 (argsL := argsL) (rest := rest) (lenOf hpd hlen) hst (by show 2 * 0 + _ ≤ _; rw [hW]; omega) hd (fun _ _ => ⟨rfl, eT, hc, hn⟩)
  dsimp only [Pt.U, Pt.locs, Pt.cells, Pt.slots] at X' l3 y3 z3 st hQ
  subst l3 y3 z3
  exact Go.of (fun _ q => st.trans q) (k v T' Lc X' hQ)
end Call
/-- an array of n places, place i holding f i -/
def ArF (Z : State) (h : Heap) (a : Addr) (ty : FieldType) (n : Nat) (f : Nat → Value) : Prop :=
  ∃ cl : Cell, Arr Z h a cl ty ∧ cl.slots.size = n ∧ n < 2 ^ 31 ∧ (∀ i, i < n → cl.slots[i]? = some (f i)) ∧ ∀ i, i < n → fits ty (f i) = true
def upV (f : Nat → Value) (j : Nat) (v : Value) (i : Nat) : Value := if i = j then v else f i
def upI (f : Nat → Int32) (j : Nat) (v : Int32) (i : Nat) : Int32 := if i = j then v else f i
def upJ (f : Nat → Int64) (j : Nat) (v : Int64) (i : Nat) : Int64 := if i = j then v else f i
def upD (f : Nat → UInt64) (j : Nat) (v : UInt64) (i : Nat) : UInt64 := if i = j then v else f i
section ArF
variable {Z : State} {h h' : Heap} {a b : Addr} {ty : FieldType} {n : Nat} {f : Nat → Value} {sl : Nat} {v : Value} {ws : List Addr}
theorem ArF.lt (F : ArF Z h a ty n f) : a < h.size := by obtain ⟨c, A, -⟩ := F; exact A.lt
theorem ArF.ext (F : ArF Z h a ty n f) (E : Ext h h') : ArF Z h' a ty n f := by obtain ⟨c, A, r⟩ := F; exact ⟨c, A.ext E, r⟩
theorem ArF.other (F : ArF Z h b ty n f) (W : Wr h h' a sl v) (q : b ≠ a) : ArF Z h' b ty n f := by obtain ⟨c, A, r⟩ := F; exact ⟨c, A.other W q, r⟩
theorem ArF.keep (F : ArF Z h a ty n f) (K : Keep h h' ws) (q : a ∉ ws) : ArF Z h' a ty n f := by obtain ⟨c, A, r⟩ := F; exact ⟨c, ⟨K.2.1 a c A.1 q, A.2⟩, r⟩
theorem ArF.len (F : ArF Z h a ty n f) : n < 2 ^ 31 := by obtain ⟨c, A, r1, r2, -⟩ := F; exact r2
theorem ArF.fit (F : ArF Z h a ty n f) {i : Nat} (hi : i < n) : fits ty (f i) = true := by obtain ⟨c, A, r1, r2, r3, r4⟩ := F; exact r4 i hi
theorem ArF.congr {g : Nat → Value} (F : ArF Z h a ty n f) (q : ∀ i, i < n → g i = f i) : ArF Z h a ty n g := by
  obtain ⟨c, A, r1, r2, r3, r4⟩ := F
  exact ⟨c, A, r1, r2, fun i hi => by rw [q i hi]; exact r3 i hi, fun i hi => by rw [q i hi]; exact r4 i hi⟩
theorem ArF.new {k : ClassId} {z : Int32} (A : Arr Z h a (newA k ty z) ty) (hn : ¬ z < 0) (hz : z.toNatClampNeg = n) : ArF Z h a ty n (fun _ => defaultValue ty) := by
  subst hz
  refine ⟨_, A, sz_new _ _ _, (back32 hn).2, fun i hi => ?_, fun i hi => by cases ty <;> rfl⟩
  simp [newA, hi]
theorem ArF.set {x : Nat} (F : ArF Z h a ty n f) (hv : fits ty v = true) (W : Wr h h' a x v) : ArF Z h' a ty n (upV f x v) := by
  obtain ⟨c, A, r1, r2, r3, r4⟩ := F
  refine ⟨_, A.same W, by simp [Cell.setSlot, r1], r2, fun i hi => ?_, fun i hi => ?_⟩
  · by_cases e : i = x
    · subst e; simp [upV, Cell.setSlot, r1, hi]
    · simp only [upV, e, if_false, Cell.setSlot]
      rw [Array.getElem?_setIfInBounds_ne (Ne.symm e)]; exact r3 i hi
  · by_cases e : i = x
    · simp [upV, e, hv]
    · simp only [upV, e, if_false]; exact r4 i hi
theorem ArF.arv (F : ArF Z h a ty n f) (d : Value) : ∃ k, Arv Z h a k ty n.toInt32 ((List.range n).map f) d := by
  obtain ⟨c, A, r1, r2, r3, r4⟩ := F
  have hz : (n.toInt32).toInt = n := len_toInt r2
  have hz0 : (0 : Int32).toInt = 0 := rfl
  have hg : ∀ i, i < n → ((List.range n).map f).getD i d = f i := fun i hi => by simp [List.getD, hi]
  refine ⟨c.cls, c, A, rfl, ?_, by rw [Int32.lt_iff_toInt_lt]; omega, fun i hi => ?_, fun i hi => ?_⟩
  · rw [r1, Int32.toNatClampNeg]; omega
  · rw [r1] at hi; rw [hg i hi]; exact r3 i hi
  · rw [r1] at hi; rw [hg i hi]; exact r4 i hi
theorem arF_of_arv {k : ClassId} {z : Int32} {vs : List Value} {d : Value} (F : Arv Z h a k ty z vs d) : ArF Z h a ty z.toNatClampNeg (fun i => vs.getD i d) := by
  obtain ⟨c, A, -, r2, r3, r4, r5⟩ := F
  exact ⟨c, A, r2, (back32 r3).2, fun i hi => r4 i (by rw [r2]; exact hi), fun i hi => r5 i (by rw [r2]; exact hi)⟩
/-- n places of f from sp on, laid over f' from dp on -/
def cpF (f f' : Nat → Value) (sp dp nn : Nat) (i : Nat) : Value := if dp ≤ i ∧ i < dp + nn then f (sp + (i - dp)) else f' i
def cpT {α : Type} (f f' : Nat → α) (sp dp nn : Nat) (i : Nat) : α := if dp ≤ i ∧ i < dp + nn then f (sp + (i - dp)) else f' i
theorem ArF.cpI {g g' : Nat → Int32} {x y z : Nat} (F : ArF Z h a ty n (cpF (fun i => .int (g i)) (fun i => .int (g' i)) x y z)) : ArF Z h a ty n (fun i => .int (cpT g g' x y z i)) := F.congr fun i _ => by simp only [cpF, cpT]; split <;> rfl
theorem ArF.cpJ {g g' : Nat → Int64} {x y z : Nat} (F : ArF Z h a ty n (cpF (fun i => .long (g i)) (fun i => .long (g' i)) x y z)) : ArF Z h a ty n (fun i => .long (cpT g g' x y z i)) := F.congr fun i _ => by simp only [cpF, cpT]; split <;> rfl
theorem ArF.cpD {g g' : Nat → UInt64} {x y z : Nat} (F : ArF Z h a ty n (cpF (fun i => .double (g i)) (fun i => .double (g' i)) x y z)) : ArF Z h a ty n (fun i => .double (cpT g g' x y z i)) := F.congr fun i _ => by simp only [cpF, cpT]; split <;> rfl
theorem nat_idx {j : Int32} {k : Nat} (hj : j.toInt = (k : Int)) : j.toNatClampNeg = k := by simp only [Int32.toNatClampNeg]; omega
theorem in_idx {j : Int32} {k : Nat} {c : Cell} (hj : j.toInt = (k : Int)) (hk : k < n) (e : c.slots.size = n) : ¬ (j < 0 ∨ c.slots.size ≤ j.toNatClampNeg) := by
  rw [nat_idx hj, e, Int32.lt_iff_toInt_lt]
  have : (0 : Int32).toInt = 0 := rfl
  omega
end ArF
section ArrSteps
variable {p : Program} {l : Launch} {e : Env} {R : Room} {s : State} {m : MethodId} {args : Array Value} {below : List Frame} {meth : Method} {c : Code} {T : State} {locs : List Loc} {cells slots : Nat} {Q : Option Value → Heap → List Loc → Prop} {C S : Nat} {Z : State} {a0 : Array Value} {h : Heap} {a : Addr} {n : Nat} {j : Int32} {pc pc' : Nat} {Ls : Array Slot} {rest : List Value}
theorem Go.alen (X : Stand p l e R s m args below meth c T locs cells slots) (hx : p.tables.exec = Jvm.exec) (hZ : Z.Warmed39 s.vm) (eT : T.heap = h) {ty : FieldType} {f : Nat → Value} (F : ArF Z h a ty n f) {z : Int32} (hz : n.toInt32 = z) (hd : decode c.code pc = .ok (.arraylength, 1)) (hp : pc + 1 = pc')
    (kk : Go p.tables e below s Q C S (T.setTop (mkF m pc' Ls (.int z :: rest)))) : Go p.tables e below s Q C S (T.setTop (mkF m pc Ls (.ref a :: rest))) := by
  subst hp hz
  obtain ⟨cl, A, r1, r2, -⟩ := F
  subst r1
  exact Go.of (fun t q => X.arraylength hx (by rw [eT]; exact A.1) (State.isArrayOf_alike hZ.alike A.2.1) (g := mkF m pc Ls (.ref a :: rest)) rfl rfl hd t q) kk
theorem Go.iaload (X : Stand p l e R s m args below meth c T locs cells slots) (hx : p.tables.exec = Jvm.exec) (hZ : Z.Warmed39 s.vm) (eT : T.heap = h) {f : Nat → Int32} (F : ArF Z h a .int n (fun i => .int (f i))) {k : Nat} (hj : j.toInt = (k : Int)) (hk : k < n) {v : Int32} (hv : f k = v) (hd : decode c.code pc = .ok (.iaload, 1)) (hp : pc + 1 = pc')
    (kk : Go p.tables e below s Q C S (T.setTop (mkF m pc' Ls (.int v :: rest)))) : Go p.tables e below s Q C S (T.setTop (mkF m pc Ls (.int j :: .ref a :: rest))) := by
  subst hp hv
  obtain ⟨cl, A, r1, r2, r3, -⟩ := F
  exact Go.of (fun t q => X.iaload hx (j := j) (v := .int (f k)) (by rw [eT]; exact A.1) (State.isArrayOf_alike hZ.alike A.2.1) A.2.2 (in_idx hj hk r1) (by rw [nat_idx hj, r3 _ hk]) (g := mkF m pc Ls (.int j :: .ref a :: rest)) rfl rfl hd t q) kk
theorem Go.laload (X : Stand p l e R s m args below meth c T locs cells slots) (hx : p.tables.exec = Jvm.exec) (hZ : Z.Warmed39 s.vm) (eT : T.heap = h) {f : Nat → Int64} (F : ArF Z h a .long n (fun i => .long (f i))) {k : Nat} (hj : j.toInt = (k : Int)) (hk : k < n) {v : Int64} (hv : f k = v) (hd : decode c.code pc = .ok (.laload, 1)) (hp : pc + 1 = pc')
    (kk : Go p.tables e below s Q C S (T.setTop (mkF m pc' Ls (.long v :: rest)))) : Go p.tables e below s Q C S (T.setTop (mkF m pc Ls (.int j :: .ref a :: rest))) := by
  subst hp hv
  obtain ⟨cl, A, r1, r2, r3, -⟩ := F
  exact Go.of (fun t q => X.laload hx (j := j) (v := .long (f k)) (by rw [eT]; exact A.1) (State.isArrayOf_alike hZ.alike A.2.1) A.2.2 (in_idx hj hk r1) (by rw [nat_idx hj, r3 _ hk]) (g := mkF m pc Ls (.int j :: .ref a :: rest)) rfl rfl hd t q) kk
theorem Go.iastore (X : Stand p l e R s m args below meth c T locs cells slots) (hx : p.tables.exec = Jvm.exec) (hZ : Z.Warmed39 s.vm) (eT : T.heap = h) {f : Nat → Int32} (F : ArF Z h a .int n (fun i => .int (f i))) {x : Int32} {k : Nat} (hj : j.toInt = (k : Int)) (hk : k < n) (hd : decode c.code pc = .ok (.iastore, 1)) (hp : pc + 1 = pc')
    (kk : ∀ T' h', Stand p l e R s m args below meth c T' (locs ++ [⟨a, k⟩]) cells slots → T'.heap = h' → Wr h h' a k (.int x) → ArF Z h' a .int n (fun i => .int (upI f k x i)) → Go p.tables e below s Q C S (T'.setTop (mkF m pc' Ls rest))) : Go p.tables e below s Q C S (T.setTop (mkF m pc Ls (.int x :: .int j :: .ref a :: rest))) := by
  subst hp
  obtain ⟨cl, A, r1, r2, r3, r4⟩ := F
  obtain ⟨T', h', X', e', W, st⟩ := stI X hx hZ eT A (j := j) (in_idx hj hk r1) (g := mkF m pc Ls (.int x :: .int j :: .ref a :: rest)) rfl rfl hd
  rw [nat_idx hj] at X' W
  exact Go.of st (kk T' h' X' e' W ((ArF.set ⟨cl, A, r1, r2, r3, r4⟩ rfl W).congr fun i _ => by simp only [upV, upI]; split <;> rfl))
theorem Go.lastore (X : Stand p l e R s m args below meth c T locs cells slots) (hx : p.tables.exec = Jvm.exec) (hZ : Z.Warmed39 s.vm) (eT : T.heap = h) {f : Nat → Int64} (F : ArF Z h a .long n (fun i => .long (f i))) {x : Int64} {k : Nat} (hj : j.toInt = (k : Int)) (hk : k < n) (hd : decode c.code pc = .ok (.lastore, 1)) (hp : pc + 1 = pc')
    (kk : ∀ T' h', Stand p l e R s m args below meth c T' (locs ++ [⟨a, k⟩]) cells slots → T'.heap = h' → Wr h h' a k (.long x) → ArF Z h' a .long n (fun i => .long (upJ f k x i)) → Go p.tables e below s Q C S (T'.setTop (mkF m pc' Ls rest))) : Go p.tables e below s Q C S (T.setTop (mkF m pc Ls (.long x :: .int j :: .ref a :: rest))) := by
  subst hp
  obtain ⟨cl, A, r1, r2, r3, r4⟩ := F
  obtain ⟨T', h', X', e', W, st⟩ := stJ X hx hZ eT A (j := j) (in_idx hj hk r1) (g := mkF m pc Ls (.long x :: .int j :: .ref a :: rest)) rfl rfl hd
  rw [nat_idx hj] at X' W
  exact Go.of st (kk T' h' X' e' W ((ArF.set ⟨cl, A, r1, r2, r3, r4⟩ rfl W).congr fun i _ => by simp only [upV, upJ]; split <;> rfl))
theorem Go.newarr (X : Stand p l e R s m args below meth c T locs cells slots) (hx : p.tables.exec = Jvm.exec) (hZ : Z.Warmed39 s.vm) {aty : ArrayType} {ty : FieldType} (hty : newarray.typeOf aty = ty) (w : (Cond.arrayClass ty).before a0 Z = true) (eT : T.heap = h) {z : Int32} (hn : ¬ z < 0) (hz : z.toNatClampNeg = n) {cap : Nat} (hcap : n ≤ cap) (hb : cap * 8 ≤ 536870912) (hc : cells + 1 ≤ R.cells) (hl : slots + cap ≤ R.slots)
    (hd : decode c.code pc = .ok (.newarray aty, 2)) (hp : pc + 2 = pc')
    (kk : ∀ T' h' b, Stand p l e R s m args below meth c T' locs (cells + 1) (slots + cap) → T'.heap = h' → Ext h h' → b = h.size → ArF Z h' b ty n (fun _ => defaultValue ty) → Go p.tables e below s Q C S (T'.setTop (mkF m pc' Ls (.ref b :: rest)))) : Go p.tables e below s Q C S (T.setTop (mkF m pc Ls (.int z :: rest))) := by
  subst hty hp
  obtain ⟨T', h', cA, X', e', E, A, st⟩ := newP X hx hZ w eT (g := mkF m pc Ls (.int z :: rest)) rfl hd rfl hn (cap := cap) (by omega) hb hc hl
  exact Go.of st (kk T' h' h.size X' e' E rfl (ArF.new A hn hz))
end ArrSteps
section Steps1
variable {p : Program} {l : Launch} {e : Env} {R : Room} {s : State} {m : MethodId} {args : Array Value} {below : List Frame} {meth : Method} {c : Code} {T : State} {locs : List Loc} {cells slots : Nat} {Q : Option Value → Heap → List Loc → Prop} {C S : Nat} {bs : ByteArray} {pc pc' : Nat} {Ls : Array Slot} {st : List Value} {Z : State} {a0 : Array Value} {h : Heap} {own : String}
theorem g_iloadN (X : Stand p l e R s m args below meth c T locs cells slots) (hx : p.tables.exec = Jvm.exec) (hby : c.code = bs) {k : Fin 4} {v : Int32} (hd : decode bs pc = .ok (.iload_n k, 1)) (hp : pc + 1 = pc') (hl : Ls[k.val]? = some (.val (.int v))) (kk : Go p.tables e below s Q C S (T.setTop (mkF m pc' Ls (.int v :: st)))) : Go p.tables e below s Q C S (T.setTop (mkF m pc Ls (st))) := by
  subst hp
  exact Go.of (fun _ q => XS.iloadN X.here hx rfl (hb hby hd) hl q) kk
theorem g_iload (X : Stand p l e R s m args below meth c T locs cells slots) (hx : p.tables.exec = Jvm.exec) (hby : c.code = bs) {k : Nat} {v : Int32} (hd : decode bs pc = .ok (.iload k, 2)) (hp : pc + 2 = pc') (hl : Ls[k]? = some (.val (.int v))) (kk : Go p.tables e below s Q C S (T.setTop (mkF m pc' Ls (.int v :: st)))) : Go p.tables e below s Q C S (T.setTop (mkF m pc Ls (st))) := by
  subst hp
  exact Go.of (fun _ q => XS.iload X.here hx rfl (hb hby hd) hl q) kk
theorem g_istoreN (X : Stand p l e R s m args below meth c T locs cells slots) (hx : p.tables.exec = Jvm.exec) (hby : c.code = bs) {k : Fin 4} {v : Int32} {L' : Array Slot} (hd : decode bs pc = .ok (.istore_n k, 1)) (hp : pc + 1 = pc') (hl : storeLocals Ls k.val (.int v) = some L') (kk : Go p.tables e below s Q C S (T.setTop (mkF m pc' L' (st)))) : Go p.tables e below s Q C S (T.setTop (mkF m pc Ls (.int v :: st))) := by
  subst hp
  exact Go.of (fun _ q => XS.istoreN X.here hx rfl (hb hby hd) rfl hl q) kk
theorem g_istore (X : Stand p l e R s m args below meth c T locs cells slots) (hx : p.tables.exec = Jvm.exec) (hby : c.code = bs) {k : Nat} {v : Int32} {L' : Array Slot} (hd : decode bs pc = .ok (.istore k, 2)) (hp : pc + 2 = pc') (hl : storeLocals Ls k (.int v) = some L') (kk : Go p.tables e below s Q C S (T.setTop (mkF m pc' L' (st)))) : Go p.tables e below s Q C S (T.setTop (mkF m pc Ls (.int v :: st))) := by
  subst hp
  exact Go.of (fun _ q => XS.istore X.here hx rfl (hb hby hd) rfl hl q) kk
theorem g_iadd (X : Stand p l e R s m args below meth c T locs cells slots) (hx : p.tables.exec = Jvm.exec) (hby : c.code = bs) {x y z : Int32} (hd : decode bs pc = .ok (.iadd, 1)) (hp : pc + 1 = pc') (hz : x + y = z) (kk : Go p.tables e below s Q C S (T.setTop (mkF m pc' Ls (.int z :: st)))) : Go p.tables e below s Q C S (T.setTop (mkF m pc Ls (.int y :: .int x :: st))) := by
  subst hp; subst hz
  exact Go.of (fun _ q => XS.iadd X.here hx rfl (hb hby hd) rfl q) kk
theorem g_isub (X : Stand p l e R s m args below meth c T locs cells slots) (hx : p.tables.exec = Jvm.exec) (hby : c.code = bs) {x y z : Int32} (hd : decode bs pc = .ok (.isub, 1)) (hp : pc + 1 = pc') (hz : x - y = z) (kk : Go p.tables e below s Q C S (T.setTop (mkF m pc' Ls (.int z :: st)))) : Go p.tables e below s Q C S (T.setTop (mkF m pc Ls (.int y :: .int x :: st))) := by
  subst hp; subst hz
  exact Go.of (fun _ q => XS.isub X.here hx rfl (hb hby hd) rfl q) kk
theorem g_iand (X : Stand p l e R s m args below meth c T locs cells slots) (hx : p.tables.exec = Jvm.exec) (hby : c.code = bs) {x y z : Int32} (hd : decode bs pc = .ok (.iand, 1)) (hp : pc + 1 = pc') (hz : x &&& y = z) (kk : Go p.tables e below s Q C S (T.setTop (mkF m pc' Ls (.int z :: st)))) : Go p.tables e below s Q C S (T.setTop (mkF m pc Ls (.int y :: .int x :: st))) := by
  subst hp; subst hz
  exact Go.of (fun _ q => XS.iand X.here hx rfl (hb hby hd) rfl q) kk
theorem g_ixor (X : Stand p l e R s m args below meth c T locs cells slots) (hx : p.tables.exec = Jvm.exec) (hby : c.code = bs) {x y z : Int32} (hd : decode bs pc = .ok (.ixor, 1)) (hp : pc + 1 = pc') (hz : x ^^^ y = z) (kk : Go p.tables e below s Q C S (T.setTop (mkF m pc' Ls (.int z :: st)))) : Go p.tables e below s Q C S (T.setTop (mkF m pc Ls (.int y :: .int x :: st))) := by
  subst hp; subst hz
  exact Go.of (fun _ q => XS.ixor X.here hx rfl (hb hby hd) rfl q) kk
theorem g_lloadN (X : Stand p l e R s m args below meth c T locs cells slots) (hx : p.tables.exec = Jvm.exec) (hby : c.code = bs) {k : Fin 4} {v : Int64} (hd : decode bs pc = .ok (.lload_n k, 1)) (hp : pc + 1 = pc') (hl : Ls[k.val]? = some (.val (.long v))) (kk : Go p.tables e below s Q C S (T.setTop (mkF m pc' Ls (.long v :: st)))) : Go p.tables e below s Q C S (T.setTop (mkF m pc Ls (st))) := by
  subst hp
  exact Go.of (fun _ q => XS.lloadN X.here hx rfl (hb hby hd) hl q) kk
theorem g_lload (X : Stand p l e R s m args below meth c T locs cells slots) (hx : p.tables.exec = Jvm.exec) (hby : c.code = bs) {k : Nat} {v : Int64} (hd : decode bs pc = .ok (.lload k, 2)) (hp : pc + 2 = pc') (hl : Ls[k]? = some (.val (.long v))) (kk : Go p.tables e below s Q C S (T.setTop (mkF m pc' Ls (.long v :: st)))) : Go p.tables e below s Q C S (T.setTop (mkF m pc Ls (st))) := by
  subst hp
  exact Go.of (fun _ q => XS.lload X.here hx rfl (hb hby hd) hl q) kk
theorem g_lstoreN (X : Stand p l e R s m args below meth c T locs cells slots) (hx : p.tables.exec = Jvm.exec) (hby : c.code = bs) {k : Fin 4} {v : Int64} {L' : Array Slot} (hd : decode bs pc = .ok (.lstore_n k, 1)) (hp : pc + 1 = pc') (hl : storeLocals Ls k.val (.long v) = some L') (kk : Go p.tables e below s Q C S (T.setTop (mkF m pc' L' (st)))) : Go p.tables e below s Q C S (T.setTop (mkF m pc Ls (.long v :: st))) := by
  subst hp
  exact Go.of (fun _ q => XS.lstoreN X.here hx rfl (hb hby hd) rfl hl q) kk
theorem g_lstore (X : Stand p l e R s m args below meth c T locs cells slots) (hx : p.tables.exec = Jvm.exec) (hby : c.code = bs) {k : Nat} {v : Int64} {L' : Array Slot} (hd : decode bs pc = .ok (.lstore k, 2)) (hp : pc + 2 = pc') (hl : storeLocals Ls k (.long v) = some L') (kk : Go p.tables e below s Q C S (T.setTop (mkF m pc' L' (st)))) : Go p.tables e below s Q C S (T.setTop (mkF m pc Ls (.long v :: st))) := by
  subst hp
  exact Go.of (fun _ q => XS.lstore X.here hx rfl (hb hby hd) rfl hl q) kk
theorem g_ladd (X : Stand p l e R s m args below meth c T locs cells slots) (hx : p.tables.exec = Jvm.exec) (hby : c.code = bs) {x y z : Int64} (hd : decode bs pc = .ok (.ladd, 1)) (hp : pc + 1 = pc') (hz : x + y = z) (kk : Go p.tables e below s Q C S (T.setTop (mkF m pc' Ls (.long z :: st)))) : Go p.tables e below s Q C S (T.setTop (mkF m pc Ls (.long y :: .long x :: st))) := by
  subst hp; subst hz
  exact Go.of (fun _ q => XS.ladd X.here hx rfl (hb hby hd) rfl q) kk
theorem g_lsub (X : Stand p l e R s m args below meth c T locs cells slots) (hx : p.tables.exec = Jvm.exec) (hby : c.code = bs) {x y z : Int64} (hd : decode bs pc = .ok (.lsub, 1)) (hp : pc + 1 = pc') (hz : x - y = z) (kk : Go p.tables e below s Q C S (T.setTop (mkF m pc' Ls (.long z :: st)))) : Go p.tables e below s Q C S (T.setTop (mkF m pc Ls (.long y :: .long x :: st))) := by
  subst hp; subst hz
  exact Go.of (fun _ q => XS.lsub X.here hx rfl (hb hby hd) rfl q) kk
theorem g_land (X : Stand p l e R s m args below meth c T locs cells slots) (hx : p.tables.exec = Jvm.exec) (hby : c.code = bs) {x y z : Int64} (hd : decode bs pc = .ok (.land, 1)) (hp : pc + 1 = pc') (hz : x &&& y = z) (kk : Go p.tables e below s Q C S (T.setTop (mkF m pc' Ls (.long z :: st)))) : Go p.tables e below s Q C S (T.setTop (mkF m pc Ls (.long y :: .long x :: st))) := by
  subst hp; subst hz
  exact Go.of (fun _ q => XS.land X.here hx rfl (hb hby hd) rfl q) kk
theorem g_lor (X : Stand p l e R s m args below meth c T locs cells slots) (hx : p.tables.exec = Jvm.exec) (hby : c.code = bs) {x y z : Int64} (hd : decode bs pc = .ok (.lor, 1)) (hp : pc + 1 = pc') (hz : x ||| y = z) (kk : Go p.tables e below s Q C S (T.setTop (mkF m pc' Ls (.long z :: st)))) : Go p.tables e below s Q C S (T.setTop (mkF m pc Ls (.long y :: .long x :: st))) := by
  subst hp; subst hz
  exact Go.of (fun _ q => XS.lor X.here hx rfl (hb hby hd) rfl q) kk
theorem g_lxor (X : Stand p l e R s m args below meth c T locs cells slots) (hx : p.tables.exec = Jvm.exec) (hby : c.code = bs) {x y z : Int64} (hd : decode bs pc = .ok (.lxor, 1)) (hp : pc + 1 = pc') (hz : x ^^^ y = z) (kk : Go p.tables e below s Q C S (T.setTop (mkF m pc' Ls (.long z :: st)))) : Go p.tables e below s Q C S (T.setTop (mkF m pc Ls (.long y :: .long x :: st))) := by
  subst hp; subst hz
  exact Go.of (fun _ q => XS.lxor X.here hx rfl (hb hby hd) rfl q) kk
theorem g_ldiv (X : Stand p l e R s m args below meth c T locs cells slots) (hx : p.tables.exec = Jvm.exec) (hby : c.code = bs) {x y z : Int64} (hd : decode bs pc = .ok (.ldiv, 1)) (hp : pc + 1 = pc') (hy : y ≠ 0) (hz : x / y = z) (kk : Go p.tables e below s Q C S (T.setTop (mkF m pc' Ls (.long z :: st)))) : Go p.tables e below s Q C S (T.setTop (mkF m pc Ls (.long y :: .long x :: st))) := by
  subst hp; subst hz
  exact Go.of (fun _ q => XS.ldiv X.here hx rfl (hb hby hd) rfl hy q) kk
theorem g_irem (X : Stand p l e R s m args below meth c T locs cells slots) (hx : p.tables.exec = Jvm.exec) (hby : c.code = bs) {x y z : Int32} (hd : decode bs pc = .ok (.irem, 1)) (hp : pc + 1 = pc') (hy : y ≠ 0) (hz : x % y = z) (kk : Go p.tables e below s Q C S (T.setTop (mkF m pc' Ls (.int z :: st)))) : Go p.tables e below s Q C S (T.setTop (mkF m pc Ls (.int y :: .int x :: st))) := by
  subst hp; subst hz
  exact Go.of (fun _ q => XS.irem X.here hx rfl (hb hby hd) rfl hy (by rw [irem_mod]; exact q)) kk
theorem g_lrem (X : Stand p l e R s m args below meth c T locs cells slots) (hx : p.tables.exec = Jvm.exec) (hby : c.code = bs) {x y z : Int64} (hd : decode bs pc = .ok (.lrem, 1)) (hp : pc + 1 = pc') (hy : y ≠ 0) (hz : x % y = z) (kk : Go p.tables e below s Q C S (T.setTop (mkF m pc' Ls (.long z :: st)))) : Go p.tables e below s Q C S (T.setTop (mkF m pc Ls (.long y :: .long x :: st))) := by
  subst hp; subst hz
  exact Go.of (fun _ q => Jvm.Free.XT.lrem X.here hx rfl (hb hby hd) rfl hy (by rw [lrem_mod]; exact q)) kk
theorem g_iushr (X : Stand p l e R s m args below meth c T locs cells slots) (hx : p.tables.exec = Jvm.exec) (hby : c.code = bs) {x z : Int32} {y : Int32} (hd : decode bs pc = .ok (.iushr, 1)) (hp : pc + 1 = pc') (hz : (x.toUInt32 >>> (y &&& 31).toUInt32).toInt32 = z) (kk : Go p.tables e below s Q C S (T.setTop (mkF m pc' Ls (.int z :: st)))) : Go p.tables e below s Q C S (T.setTop (mkF m pc Ls (.int y :: .int x :: st))) := by
  subst hp; subst hz
  exact Go.of (fun _ q => XS.iushr X.here hx rfl (hb hby hd) rfl q) kk
theorem g_lshl (X : Stand p l e R s m args below meth c T locs cells slots) (hx : p.tables.exec = Jvm.exec) (hby : c.code = bs) {x z : Int64} {y : Int32} (hd : decode bs pc = .ok (.lshl, 1)) (hp : pc + 1 = pc') (hz : x <<< (y &&& 0x3f).toInt64 = z) (kk : Go p.tables e below s Q C S (T.setTop (mkF m pc' Ls (.long z :: st)))) : Go p.tables e below s Q C S (T.setTop (mkF m pc Ls (.int y :: .long x :: st))) := by
  subst hp; subst hz
  exact Go.of (fun _ q => XS.lshl X.here hx rfl (hb hby hd) rfl q) kk
theorem g_lushr (X : Stand p l e R s m args below meth c T locs cells slots) (hx : p.tables.exec = Jvm.exec) (hby : c.code = bs) {x z : Int64} {y : Int32} (hd : decode bs pc = .ok (.lushr, 1)) (hp : pc + 1 = pc') (hz : (x.toUInt64 >>> (y &&& 0x3f).toInt64.toUInt64).toInt64 = z) (kk : Go p.tables e below s Q C S (T.setTop (mkF m pc' Ls (.long z :: st)))) : Go p.tables e below s Q C S (T.setTop (mkF m pc Ls (.int y :: .long x :: st))) := by
  subst hp; subst hz
  exact Go.of (fun _ q => XS.lushr X.here hx rfl (hb hby hd) rfl q) kk
theorem g_i2l (X : Stand p l e R s m args below meth c T locs cells slots) (hx : p.tables.exec = Jvm.exec) (hby : c.code = bs) {x : Int32} {z : Int64} (hd : decode bs pc = .ok (.i2l, 1)) (hp : pc + 1 = pc') (hz : x.toInt64 = z) (kk : Go p.tables e below s Q C S (T.setTop (mkF m pc' Ls (.long z :: st)))) : Go p.tables e below s Q C S (T.setTop (mkF m pc Ls (.int x :: st))) := by
  subst hp; subst hz
  exact Go.of (fun _ q => XS.i2l X.here hx rfl (hb hby hd) rfl q) kk
theorem g_l2i (X : Stand p l e R s m args below meth c T locs cells slots) (hx : p.tables.exec = Jvm.exec) (hby : c.code = bs) {x : Int64} {z : Int32} (hd : decode bs pc = .ok (.l2i, 1)) (hp : pc + 1 = pc') (hz : x.toInt32 = z) (kk : Go p.tables e below s Q C S (T.setTop (mkF m pc' Ls (.int z :: st)))) : Go p.tables e below s Q C S (T.setTop (mkF m pc Ls (.long x :: st))) := by
  subst hp; subst hz
  exact Go.of (fun _ q => XS.l2i X.here hx rfl (hb hby hd) rfl q) kk
theorem g_lcmp (X : Stand p l e R s m args below meth c T locs cells slots) (hx : p.tables.exec = Jvm.exec) (hby : c.code = bs) {x y : Int64} (hd : decode bs pc = .ok (.lcmp, 1)) (hp : pc + 1 = pc')  (kk : Go p.tables e below s Q C S (T.setTop (mkF m pc' Ls (.int (lcmpW x y) :: st)))) : Go p.tables e below s Q C S (T.setTop (mkF m pc Ls (.long y :: .long x :: st))) := by
  subst hp
  exact Go.of (fun _ q => XS.lcmp X.here hx rfl (hb hby hd) rfl q) kk
theorem g_aloadN (X : Stand p l e R s m args below meth c T locs cells slots) (hx : p.tables.exec = Jvm.exec) (hby : c.code = bs) {k : Fin 4} {v : Value} (hd : decode bs pc = .ok (.aload_n k, 1)) (hp : pc + 1 = pc') (hl : Ls[k.val]? = some (.val v)) (hr : v.isRef = true) (kk : Go p.tables e below s Q C S (T.setTop (mkF m pc' Ls (v :: st)))) : Go p.tables e below s Q C S (T.setTop (mkF m pc Ls (st))) := by
  subst hp
  exact Go.of (fun _ q => XS.aloadN X.here hx rfl (hb hby hd) hl hr q) kk
theorem g_aload (X : Stand p l e R s m args below meth c T locs cells slots) (hx : p.tables.exec = Jvm.exec) (hby : c.code = bs) {k : Nat} {v : Value} (hd : decode bs pc = .ok (.aload k, 2)) (hp : pc + 2 = pc') (hl : Ls[k]? = some (.val v)) (hr : v.isRef = true) (kk : Go p.tables e below s Q C S (T.setTop (mkF m pc' Ls (v :: st)))) : Go p.tables e below s Q C S (T.setTop (mkF m pc Ls (st))) := by
  subst hp
  exact Go.of (fun _ q => XS.aload X.here hx rfl (hb hby hd) hl hr q) kk
theorem g_astoreN (X : Stand p l e R s m args below meth c T locs cells slots) (hx : p.tables.exec = Jvm.exec) (hby : c.code = bs) {k : Fin 4} {v : Value} {L' : Array Slot} (hd : decode bs pc = .ok (.astore_n k, 1)) (hp : pc + 1 = pc') (hr : v.isRef = true) (hl : storeLocals Ls k.val v = some L') (kk : Go p.tables e below s Q C S (T.setTop (mkF m pc' L' (st)))) : Go p.tables e below s Q C S (T.setTop (mkF m pc Ls (v :: st))) := by
  subst hp
  exact Go.of (fun _ q => XS.astoreN X.here hx rfl (hb hby hd) rfl hr hl q) kk
theorem g_astore (X : Stand p l e R s m args below meth c T locs cells slots) (hx : p.tables.exec = Jvm.exec) (hby : c.code = bs) {k : Nat} {v : Value} {L' : Array Slot} (hd : decode bs pc = .ok (.astore k, 2)) (hp : pc + 2 = pc') (hr : v.isRef = true) (hl : storeLocals Ls k v = some L') (kk : Go p.tables e below s Q C S (T.setTop (mkF m pc' L' (st)))) : Go p.tables e below s Q C S (T.setTop (mkF m pc Ls (v :: st))) := by
  subst hp
  exact Go.of (fun _ q => XS.astore X.here hx rfl (hb hby hd) rfl hr hl q) kk
theorem g_iconst (X : Stand p l e R s m args below meth c T locs cells slots) (hx : p.tables.exec = Jvm.exec) (hby : c.code = bs) {i : Int} {z : Int32} (hd : decode bs pc = .ok (.iconst i, 1)) (hp : pc + 1 = pc') (hz : Int32.ofInt i = z) (kk : Go p.tables e below s Q C S (T.setTop (mkF m pc' Ls (.int z :: st)))) : Go p.tables e below s Q C S (T.setTop (mkF m pc Ls (st))) := by
  subst hp; subst hz
  exact Go.of (fun _ q => XS.iconst X.here hx rfl (hb hby hd) q) kk
theorem g_bipush (X : Stand p l e R s m args below meth c T locs cells slots) (hx : p.tables.exec = Jvm.exec) (hby : c.code = bs) {i : Int} {z : Int32} (hd : decode bs pc = .ok (.bipush i, 2)) (hp : pc + 2 = pc') (hz : (Int8.ofInt i).toInt32 = z) (kk : Go p.tables e below s Q C S (T.setTop (mkF m pc' Ls (.int z :: st)))) : Go p.tables e below s Q C S (T.setTop (mkF m pc Ls (st))) := by
  subst hp; subst hz
  exact Go.of (fun _ q => XS.bipush X.here hx rfl (hb hby hd) q) kk
theorem g_sipush (X : Stand p l e R s m args below meth c T locs cells slots) (hx : p.tables.exec = Jvm.exec) (hby : c.code = bs) {i : Int} {z : Int32} (hd : decode bs pc = .ok (.sipush i, 3)) (hp : pc + 3 = pc') (hz : (Int16.ofInt i).toInt32 = z) (kk : Go p.tables e below s Q C S (T.setTop (mkF m pc' Ls (.int z :: st)))) : Go p.tables e below s Q C S (T.setTop (mkF m pc Ls (st))) := by
  subst hp; subst hz
  exact Go.of (fun _ q => XS.sipush X.here hx rfl (hb hby hd) q) kk
theorem g_iinc (X : Stand p l e R s m args below meth c T locs cells slots) (hx : p.tables.exec = Jvm.exec) (hby : c.code = bs) {k : Nat} {i : Int} {x : Int32} {L' : Array Slot} (hd : decode bs pc = .ok (.iinc k i, 3)) (hp : pc + 3 = pc') (hl : Ls[k]? = some (.val (.int x))) (hl' : storeLocals Ls k (.int (x + Int32.ofInt i)) = some L') (kk : Go p.tables e below s Q C S (T.setTop (mkF m pc' L' (st)))) : Go p.tables e below s Q C S (T.setTop (mkF m pc Ls (st))) := by
  subst hp
  exact Go.of (fun _ q => XS.iinc X.here hx rfl (hb hby hd) hl hl' q) kk
theorem g_dup (X : Stand p l e R s m args below meth c T locs cells slots) (hx : p.tables.exec = Jvm.exec) (hby : c.code = bs) {v : Value} (hd : decode bs pc = .ok (.dup, 1)) (hp : pc + 1 = pc') (hc : v.category = 1) (kk : Go p.tables e below s Q C S (T.setTop (mkF m pc' Ls (v :: v :: st)))) : Go p.tables e below s Q C S (T.setTop (mkF m pc Ls (v :: st))) := by
  subst hp
  exact Go.of (fun _ q => XS.dup X.here hx rfl (hb hby hd) rfl hc q) kk
theorem g_dup2 (X : Stand p l e R s m args below meth c T locs cells slots) (hx : p.tables.exec = Jvm.exec) (hby : c.code = bs) {v w : Value} (hd : decode bs pc = .ok (.dup2, 1)) (hp : pc + 1 = pc') (hc : v.category = 1) (hc' : w.category = 1) (kk : Go p.tables e below s Q C S (T.setTop (mkF m pc' Ls (v :: w :: v :: w :: st)))) : Go p.tables e below s Q C S (T.setTop (mkF m pc Ls (v :: w :: st))) := by
  subst hp
  exact Go.of (fun _ q => Jvm.Free.XT.dup2 X.here hx rfl (hb hby hd) rfl hc hc' q) kk
theorem g_goto (X : Stand p l e R s m args below meth c T locs cells slots) (hx : p.tables.exec = Jvm.exec) (hby : c.code = bs) {o : Int} (hd : decode bs pc = .ok (.goto o, 3)) (h0 : 0 ≤ (pc : Int) + o) (hp : ((pc : Int) + o).toNat = pc') (kk : Go p.tables e below s Q C S (T.setTop (mkF m pc' Ls st))) : Go p.tables e below s Q C S (T.setTop (mkF m pc Ls st)) :=
  Go.of (fun _ q => XS.goto X.here hx rfl (pc0 := pc) (pc' := pc') rfl (hb hby hd) h0 hp q) kk
theorem g_ifYes (X : Stand p l e R s m args below meth c T locs cells slots) (hx : p.tables.exec = Jvm.exec) (hby : c.code = bs) {cd : ClassFile.Cond} {x : Int32} {o : Int} (hd : decode bs pc = .ok (.ifCond cd o, 3)) (hc : if_icmp.holds cd x 0 = true) (h0 : 0 ≤ (pc : Int) + o) (hp : ((pc : Int) + o).toNat = pc') (kk : Go p.tables e below s Q C S (T.setTop (mkF m pc' Ls st))) : Go p.tables e below s Q C S (T.setTop (mkF m pc Ls (.int x :: st))) :=
  Go.of (fun _ q => XS.ifYes X.here hx rfl (pc0 := pc) (pc' := pc') rfl (hb hby hd) rfl ((if0 _ _).trans hc) h0 hp q) kk
theorem g_ifNo (X : Stand p l e R s m args below meth c T locs cells slots) (hx : p.tables.exec = Jvm.exec) (hby : c.code = bs) {cd : ClassFile.Cond} {x : Int32} {o : Int} (hd : decode bs pc = .ok (.ifCond cd o, 3)) (hc : if_icmp.holds cd x 0 = false) (hp : pc + 3 = pc') (kk : Go p.tables e below s Q C S (T.setTop (mkF m pc' Ls st))) : Go p.tables e below s Q C S (T.setTop (mkF m pc Ls (.int x :: st))) := by
  subst hp
  exact Go.of (fun _ q => XS.ifNo X.here hx rfl (hb hby hd) rfl ((if0 _ _).trans hc) q) kk
theorem g_icmpYes (X : Stand p l e R s m args below meth c T locs cells slots) (hx : p.tables.exec = Jvm.exec) (hby : c.code = bs) {cd : ClassFile.Cond} {x y : Int32} {o : Int} (hd : decode bs pc = .ok (.if_icmp cd o, 3)) (hc : if_icmp.holds cd x y = true) (h0 : 0 ≤ (pc : Int) + o) (hp : ((pc : Int) + o).toNat = pc') (kk : Go p.tables e below s Q C S (T.setTop (mkF m pc' Ls st))) : Go p.tables e below s Q C S (T.setTop (mkF m pc Ls (.int y :: .int x :: st))) :=
  Go.of (fun _ q => XS.icmpYes X.here hx rfl (pc0 := pc) (pc' := pc') rfl (hb hby hd) rfl hc h0 hp q) kk
theorem g_icmpNo (X : Stand p l e R s m args below meth c T locs cells slots) (hx : p.tables.exec = Jvm.exec) (hby : c.code = bs) {cd : ClassFile.Cond} {x y : Int32} {o : Int} (hd : decode bs pc = .ok (.if_icmp cd o, 3)) (hc : if_icmp.holds cd x y = false) (hp : pc + 3 = pc') (kk : Go p.tables e below s Q C S (T.setTop (mkF m pc' Ls st))) : Go p.tables e below s Q C S (T.setTop (mkF m pc Ls (.int y :: .int x :: st))) := by
  subst hp
  exact Go.of (fun _ q => XS.icmpNo X.here hx rfl (hb hby hd) rfl hc q) kk
theorem g_ldcI (X : Stand p l e R s m args below meth c T locs cells slots) (hx : p.tables.exec = Jvm.exec) (hby : c.code = bs) (hZ : Z.Warmed39 s.vm) (hown : s.vm.findClass own = some m.cls) {i : Nat} {z : Int32} (w : (Cond.constant own i z).before a0 Z = true) (hd : decode bs pc = .ok (.ldc i, 2)) (hp : pc + 2 = pc') (kk : Go p.tables e below s Q C S (T.setTop (mkF m pc' Ls (.int z :: st)))) : Go p.tables e below s Q C S (T.setTop (mkF m pc Ls st)) := by
  subst hp
  exact Go.of (fun _ q => X.ldcInt hx hown (mvT hZ w) (g := mkF m pc Ls st) rfl (hb hby hd) _ q) kk
theorem g_ldcwI (X : Stand p l e R s m args below meth c T locs cells slots) (hx : p.tables.exec = Jvm.exec) (hby : c.code = bs) (hZ : Z.Warmed39 s.vm) (hown : s.vm.findClass own = some m.cls) {i : Nat} {z : Int32} (w : (Cond.constant own i z).before a0 Z = true) (hd : decode bs pc = .ok (.ldc_w i, 3)) (hp : pc + 3 = pc') (kk : Go p.tables e below s Q C S (T.setTop (mkF m pc' Ls (.int z :: st)))) : Go p.tables e below s Q C S (T.setTop (mkF m pc Ls st)) := by
  subst hp
  exact Go.of (fun _ q => X.ldcwInt hx hown (mvT hZ w) (g := mkF m pc Ls st) rfl (hb hby hd) _ q) kk
theorem g_ldcL (X : Stand p l e R s m args below meth c T locs cells slots) (hx : p.tables.exec = Jvm.exec) (hby : c.code = bs) (hZ : Z.Warmed39 s.vm) (hown : s.vm.findClass own = some m.cls) {i : Nat} {z : Int64} (w : (Cond.constantLong own i z).before a0 Z = true) (hd : decode bs pc = .ok (.ldc2_w i, 3)) (hp : pc + 3 = pc') (kk : Go p.tables e below s Q C S (T.setTop (mkF m pc' Ls (.long z :: st)))) : Go p.tables e below s Q C S (T.setTop (mkF m pc Ls st)) := by
  subst hp
  exact Go.of (fun _ q => X.ldc2Long hx hown (mvT hZ w) (g := mkF m pc Ls st) rfl (hb hby hd) _ q) kk
theorem g_getf (X : Stand p l e R s m args below meth c T locs cells slots) (hx : p.tables.exec = Jvm.exec) (hby : c.code = bs) (hZ : Z.Warmed39 s.vm) {R0 O n d host : String} {i : Nat} (hown : s.vm.findClass own = some m.cls) (w : (Cond.fieldLink own i R0 n d).before a0 Z = true ∨ (Cond.fieldLinkNest own i R0 n d host).before a0 Z = true) (via : Via Z R0 O n d) (eT : T.heap = h) {a : Addr} {v : Value} (F : Fld Z h a O n d v) (hd : decode bs pc = .ok (.getfield i, 3)) (hp : pc + 3 = pc') (kk : ∀ T', Stand p l e R s m args below meth c T' locs cells slots → T'.heap = h → Go p.tables e below s Q C S (T'.setTop (mkF m pc' Ls (v :: st)))) : Go p.tables e below s Q C S (T.setTop (mkF m pc Ls (.ref a :: st))) := by
  subst hp
  obtain ⟨T', X', e', q⟩ := getF X hx hZ hown w via eT F (g := mkF m pc Ls (.ref a :: st)) rfl rfl (hb hby hd)
  exact Go.of q (kk T' X' e')
theorem g_putf (X : Stand p l e R s m args below meth c T locs cells slots) (hx : p.tables.exec = Jvm.exec) (hby : c.code = bs) (hZ : Z.Warmed39 s.vm) {R0 O n d host : String} {i : Nat} (hown : s.vm.findClass own = some m.cls) (w : (Cond.fieldLink own i R0 n d).before a0 Z = true ∨ (Cond.fieldLinkNest own i R0 n d host).before a0 Z = true) (via : Via Z R0 O n d) (eT : T.heap = h) {a : Addr} {v old : Value} {K : String} {kk' : Nat} {ty : FieldType} (F : Fld Z h a O n d old) (E : Exa Z h a K) (L : (Cond.lays K O n d).before a0 Z = true ∨ ((Cond.laysFinal K O n d).before a0 Z = true ∧ own = O ∧ meth.name = "<init>")) (wi : (Cond.instantiable K kk').before a0 Z = true) (hty : parseFieldDescriptor d = some ty) (hn : narrow ty v = v) (hf : fits ty v = true) (hd : decode bs pc = .ok (.putfield i, 3)) (hp : pc + 3 = pc')
    (kk : ∀ T' h', Stand p l e R s m args below meth c T' (locs ++ [⟨a, Jvm.RoadKit.slotOf Z O n d⟩]) cells slots → T'.heap = h' → Wr h h' a (Jvm.RoadKit.slotOf Z O n d) v → Fld Z h' a O n d v → Go p.tables e below s Q C S (T'.setTop (mkF m pc' Ls st))) : Go p.tables e below s Q C S (T.setTop (mkF m pc Ls (v :: .ref a :: st))) := by
  subst hp
  obtain ⟨T', h', X', e', W, q⟩ := putF X hx hZ hown w via eT F E L wi hty hn hf (g := mkF m pc Ls (v :: .ref a :: st)) rfl rfl (hb hby hd)
  exact Go.of q (kk T' h' X' e' W (F.same W))
theorem g_new (X : Stand p l e R s m args below meth c T locs cells slots) (hx : p.tables.exec = Jvm.exec) (hby : c.code = bs) (hZ : Z.Warmed39 s.vm) {K : String} {i n : Nat} (hown : s.vm.findClass own = some m.cls) (w : (Cond.classLink own i K).before a0 Z = true) (wi : (Cond.instantiable K n).before a0 Z = true) (wz : (Cond.initialized K).before a0 Z = true) (eT : T.heap = h) (hd : decode bs pc = .ok (.new i, 3)) (hp : pc + 3 = pc') (hc : cells + 1 ≤ R.cells) (hl : slots + n ≤ R.slots)
    (kk : ∀ T' h' b, Stand p l e R s m args below meth c T' locs (cells + 1) (slots + n) → T'.heap = h' → Ext h h' → b = h.size → Exa Z h' b K → (∀ {O nm d : String} {ty : FieldType}, Laid Z a0 K O nm d → parseFieldDescriptor d = some ty → Fld Z h' b O nm d (defaultValue ty)) → Go p.tables e below s Q C S (T'.setTop (mkF m pc' Ls (.ref b :: st)))) : Go p.tables e below s Q C S (T.setTop (mkF m pc Ls st)) := by
  subst hp
  obtain ⟨T', h', X', e', E, A, D, -, q⟩ := newO X hx hZ hown w wi wz eT (g := mkF m pc Ls st) rfl (hb hby hd) hc hl
  exact Go.of q (kk T' h' h.size X' e' E rfl A D)
theorem g_init (X : Stand p l e R s m args below meth c T locs cells slots) (hx : p.tables.exec = Jvm.exec) (hby : c.code = bs) (hZ : Z.Warmed39 s.vm) {i : Nat} (hown : s.vm.findClass own = some m.cls) (w1 : (Cond.methodLink own i Lib.objectInit).before a0 Z = true) (w2 : (Cond.instanceMethod Lib.objectInit).before a0 Z = true) (w3 : (Cond.code Lib.objectInit ⟨#[0xb1]⟩ 1 none).before a0 Z = true) (eT : T.heap = h) {a : Addr} {W : Nat} (hsz : Ls.size = c.maxLocals) (hd : decode bs pc = .ok (.invokespecial i, 3)) (hp : pc + 3 = pc') (hf : 1 ≤ R.frames) (hW : (st.map fun v => v.category).sum = W) (hl : W + 12 ≤ R.locals) (kk : ∀ T', Stand p l e R s m args below meth c T' locs cells slots → T'.heap = h → Go p.tables e below s Q C S (T'.setTop (mkF m pc' Ls st))) : Go p.tables e below s Q C S (T.setTop (mkF m pc Ls (.ref a :: st))) := by
  subst hp
  obtain ⟨T', X', e', q⟩ := initO X hx hZ hown w1 w2 w3 eT (g := mkF m pc Ls (.ref a :: st)) rfl hsz rfl (hb hby hd) hf (W := W) (by show 2 * 0 + _ ≤ _; rw [hW]; omega) hl
  exact Go.of q (kk T' X' e')
end Steps1
end Jvm.OwnKit
namespace Jvm.Pilot.@@N@@
open Jvm Jvm.ClassFile Sem Op Lib Jvm.Free Jvm.Stand Jvm.LawKit Jvm.RoadKit Jvm.OwnKit Bundle Jvm.Pilot.@@N@@.Jvm.D
theorem wi {a0 : Array Value} {Z : State} (hw : ∀ d ∈ tables_1, d.before a0 Z = true) {d : Jvm.Cond} (i : Nat) (h : tables_1[i]? = some d) : d.before a0 Z = true := hw d (List.mem_of_getElem? h)


/-- the least bit that is set -/
def own_lsb (X t : Nat) : Prop := X.testBit t = true ∧ ∀ j, j < t → X.testBit j = false
theorem own_lsb_ex (X : Nat) (h : X ≠ 0) : ∃ t, own_lsb X t := by
  obtain ⟨k, hk⟩ := Nat.exists_testBit_of_ne_zero h
  have : ∀ n k, k ≤ n → X.testBit k = true → ∃ t, own_lsb X t := by
    intro n
    induction n with
    | zero => intro k hk h; exact ⟨k, h, fun j hj => by omega⟩
    | succ n ih =>
      intro k hk h
      by_cases q : ∃ j, j < k ∧ X.testBit j = true
      · obtain ⟨j, hj, hb⟩ := q; exact ih j (by omega) hb
      · refine ⟨k, h, fun j hj => ?_⟩
        cases hb : X.testBit j
        · rfl
        · exact absurd ⟨j, hj, hb⟩ q
  exact this k k (Nat.le_refl _) hk
theorem own_lsb_eq (X t : Nat) (h : own_lsb X t) : X = 2 ^ (t + 1) * (X / 2 ^ (t + 1)) + 2 ^ t := by
  have e : X % 2 ^ (t + 1) = 2 ^ t := by
    apply Nat.eq_of_testBit_eq
    intro j
    rw [Nat.testBit_mod_two_pow, Nat.testBit_two_pow]
    by_cases q : j < t
    · rw [h.2 j q]; simp; omega
    · by_cases r : j = t
      · subst r; simp [h.1]
      · have : ¬ j < t + 1 := by omega
        simp [this]; omega
  have := Nat.div_add_mod X (2 ^ (t + 1))
  rw [e] at this; exact this.symm
theorem own_lsb_bits (X t : Nat) (h : own_lsb X t) (j : Nat) : (X - 1).testBit j = if j < t then true else if j = t then false else X.testBit j := by
  have e := own_lsb_eq X t h
  have hp : 0 < 2 ^ t := Nat.two_pow_pos t
  have hl : 2 ^ t < 2 ^ (t + 1) := by rw [Nat.pow_succ]; omega
  generalize X / 2 ^ (t + 1) = q at e
  have e1 : X - 1 = 2 ^ (t + 1) * q + (2 ^ t - 1) := by rw [e]; omega
  rw [e1, Nat.testBit_two_pow_mul_add _ (by omega)]
  by_cases c : j < t + 1
  · rw [if_pos c, Nat.testBit_two_pow_sub_one]
    by_cases d : j < t
    · simp [d]
    · have : j = t := by omega
      subst this; simp
  · rw [if_neg c, if_neg (by omega), if_neg (by omega)]
    conv => rhs; rw [e]
    rw [Nat.testBit_two_pow_mul_add _ hl, if_neg c]
def own_tm (i : Int32) : Int32 := (i ^^^ (-1 : Int32)) &&& (i - (1 : Int32))
theorem own_tm_eq (i : Int32) (t : Nat) (ht : t < 32) (h : own_lsb i.toBitVec.toNat t) : own_tm i = Int32.ofNat (2 ^ t - 1) := by
  apply Int32.toBitVec_inj.mp
  show (i.toBitVec ^^^ 4294967295#32) &&& (i.toBitVec - 1#32) = BitVec.ofNat 32 (2 ^ t - 1)
  generalize i.toBitVec = y at h
  have hy : 0 < y.toNat := by
    rcases Nat.eq_zero_or_pos y.toNat with q | q
    · rw [own_lsb, q] at h; simp at h
    · exact q
  have e1 : (y - 1#32).toNat = y.toNat - 1 := by
    rw [BitVec.toNat_sub]; have := y.isLt; simp; omega
  have hall : ∀ j : Nat, (hj : j < 32) → (4294967295#32)[j] = true := by decide
  ext j hj
  have e2 : (y - 1#32)[j] = (y.toNat - 1).testBit j := by
    rw [← BitVec.getLsbD_eq_getElem hj]; show (y - 1#32).toNat.testBit j = _; rw [e1]
  have e3 : y[j] = y.toNat.testBit j := by rw [← BitVec.getLsbD_eq_getElem hj]; rfl
  have e4 : (BitVec.ofNat 32 (2 ^ t - 1))[j] = decide (j < t) := by
    rw [← BitVec.getLsbD_eq_getElem hj]
    show (BitVec.ofNat 32 (2 ^ t - 1)).toNat.testBit j = _
    rw [BitVec.toNat_ofNat, Nat.testBit_mod_two_pow, Nat.testBit_two_pow_sub_one]; simp [hj]
  rw [BitVec.getElem_and, BitVec.getElem_xor, hall j hj, e2, e3, e4, own_lsb_bits _ t h]
  by_cases c : j < t
  · simp [c, h.2 j c]
  · by_cases d : j = t
    · subst d; simp
    · simp [c, d]
def own_s4 (m n : Int32) : Int32 := n + (m.toUInt32 >>> ((1 : Int32) &&& 31).toUInt32).toInt32
def own_s3 (m n : Int32) : Int32 := if 4 < m.toInt then own_s4 ((m.toUInt32 >>> ((2 : Int32) &&& 31).toUInt32).toInt32) (n + 2) else own_s4 m n
def own_s2 (m n : Int32) : Int32 := if 16 < m.toInt then own_s3 ((m.toUInt32 >>> ((4 : Int32) &&& 31).toUInt32).toInt32) (n + 4) else own_s3 m n
def own_s1 (m n : Int32) : Int32 := if 256 < m.toInt then own_s2 ((m.toUInt32 >>> ((8 : Int32) &&& 31).toUInt32).toInt32) (n + 8) else own_s2 m n
def own_s0 (m n : Int32) : Int32 := if 65536 < m.toInt then own_s1 ((m.toUInt32 >>> ((16 : Int32) &&& 31).toUInt32).toInt32) (n + 16) else own_s1 m n
def own_ntzM (m : Int32) : Int32 := if 0 < m.toInt then own_s0 m 1 else m &&& (32 : Int32)
theorem own_ntz_all : ∀ t : Fin 32, own_ntzM (Int32.ofNat (2 ^ t.val - 1)) = Int32.ofNat t.val := by decide
def own_ntzL (u : Int64) : Int32 := if u.toInt32.toInt = 0 then (32 : Int32) + own_ntzM (own_tm ((u.toUInt64 >>> ((32 : Int32) &&& 0x3f).toInt64.toUInt64).toInt64.toInt32)) else own_ntzM (own_tm u.toInt32)
theorem own_ntz64 (u : Int64) (t : Nat) (ht : t < 64) (h : own_lsb u.toBitVec.toNat t) : own_ntzL u = Int32.ofNat t := by
  have e1 : u.toInt32.toBitVec = u.toBitVec.setWidth 32 := BitVec.signExtend_eq_setWidth_of_le _ (by decide)
  have e2 : ((u.toUInt64 >>> ((32 : Int32) &&& 0x3f).toInt64.toUInt64).toInt64.toInt32).toBitVec = (u.toBitVec >>> 32).setWidth 32 := BitVec.signExtend_eq_setWidth_of_le _ (by decide)
  have b1 : ∀ j, (u.toInt32.toBitVec.toNat).testBit j = (decide (j < 32) && u.toBitVec.toNat.testBit j) := fun j => by
    rw [e1, BitVec.toNat_setWidth, Nat.testBit_mod_two_pow]
  have b2 : ∀ j, (((u.toUInt64 >>> ((32 : Int32) &&& 0x3f).toInt64.toUInt64).toInt64.toInt32).toBitVec.toNat).testBit j = (decide (j < 32) && u.toBitVec.toNat.testBit (32 + j)) := fun j => by
    rw [e2, BitVec.toNat_setWidth, Nat.testBit_mod_two_pow, BitVec.toNat_ushiftRight, Nat.testBit_shiftRight]
  have z : u.toInt32.toInt = 0 ↔ u.toInt32.toBitVec.toNat = 0 := by
    constructor
    · intro q
      have : u.toInt32.toBitVec = 0#32 := BitVec.toInt_inj.mp q
      rw [this]; rfl
    · intro q
      have : u.toInt32.toBitVec = 0#32 := BitVec.eq_of_toNat_eq q
      show u.toInt32.toBitVec.toInt = 0
      rw [this]; rfl
  unfold own_ntzL
  by_cases c : t < 32
  · rw [if_neg]
    · rw [own_tm_eq _ t c ⟨by rw [b1]; simp [c, h.1], fun j hj => by rw [b1, h.2 j hj]; simp⟩]
      exact own_ntz_all ⟨t, c⟩
    · rw [z]; intro q
      have := b1 t
      rw [q, h.1] at this; simp [c] at this
  · rw [if_pos]
    · rw [own_tm_eq _ (t - 32) (by omega) ⟨by rw [b2, show 32 + (t - 32) = t by omega, h.1]; simp; omega, fun j hj => by rw [b2, h.2 (32 + j) (by omega)]; simp⟩]
      rw [own_ntz_all ⟨t - 32, by omega⟩]
      apply Int32.toBitVec_inj.mp
      show 32#32 + BitVec.ofNat 32 (t - 32) = BitVec.ofNat 32 t
      rw [← BitVec.ofNat_add]; congr 1; omega
    · rw [z]
      apply Nat.eq_of_testBit_eq
      intro j
      rw [b1]; simp
      intro hj; exact h.2 j (by omega)
/-- the least bit taken off -/
theorem own_off (u : Int64) (t : Nat) (ht : t < 64) (h : own_lsb u.toBitVec.toNat t) (j : Nat) : (u &&& (u - (1 : Int64))).toBitVec.toNat.testBit j = (u.toBitVec.toNat.testBit j && decide (j ≠ t)) := by
  show (u.toBitVec &&& (u.toBitVec - 1#64)).toNat.testBit j = _
  generalize u.toBitVec = y at *
  have hy : 0 < y.toNat := by
    rcases Nat.eq_zero_or_pos y.toNat with q | q
    · rw [own_lsb, q] at h; simp at h
    · exact q
  have e1 : (y - 1#64).toNat = y.toNat - 1 := by
    rw [BitVec.toNat_sub]; have := y.isLt; simp; omega
  rw [BitVec.toNat_and, Nat.testBit_and, e1, own_lsb_bits _ t h]
  by_cases c : j < t
  · simp [c, h.2 j c]
  · by_cases d : j = t
    · subst d; simp
    · simp [c, d]
theorem own_ix (v : Int64) (b : Nat) (hv : v.toInt = (b : Int)) (hb : b / 64 < 2 ^ 31) : ((v / (64 : Int64)).toInt32).toInt = ((b / 64 : Nat) : Int) := by
  have h1 := (c_ldiv v 64 64 rfl (by decide)).1 (by omega)
  have h2 := c_l2i (v / 64)
  have h3 := rng32 ((v / 64).toInt32)
  omega
/-- the bit of that number -/
def own_bit (g : Nat → Int64) (b : Nat) : Bool := (g (b / 64)).toBitVec.toNat.testBit (b % 64)
def own_one (b : Nat) : Int64 := ⟨⟨1#64 <<< (b % 64)⟩⟩
def own_set (g : Nat → Int64) (b : Nat) : Nat → Int64 := upJ g (b / 64) (g (b / 64) ||| own_one b)
theorem own_sh_k (x : Int64) (s : Int32) (k : Nat) (hk : s.toBitVec.toNat % 64 = k) : (x <<< (s &&& 0x3f).toInt64).toBitVec = x.toBitVec <<< k := by
  have h := sm64 s k hk
  show x.toBitVec <<< (((s &&& 0x3f).toInt64).toBitVec.smod 64).toNat = _
  rw [h.1, smod64 k h.2]
theorem own_l2i_mod (v : Int64) (b : Nat) (hv : v.toInt = (b : Int)) : v.toInt32.toBitVec.toNat % 64 = b % 64 := by
  have h1 : v.toInt32.toInt = v.toInt32.toBitVec.toInt := rfl
  have h2 := c_l2i v
  rw [h1, BitVec.toInt_eq_toNat_cond] at h2
  split at h2 <;> omega
theorem own_sh1 (v : Int64) (b : Nat) (hv : v.toInt = (b : Int)) : ((1 : Int64) <<< (v.toInt32 &&& 0x3f).toInt64) = own_one b := by
  apply Int64.toBitVec_inj.mp
  rw [own_sh_k _ _ _ (own_l2i_mod v b hv)]; rfl
theorem own_one_bit (b j : Nat) (hj : j < 64) : (own_one b).toBitVec.toNat.testBit j = decide (j = b % 64) := by
  show (1#64 <<< (b % 64)).toNat.testBit j = _
  have : b % 64 < 64 := Nat.mod_lt _ (by decide)
  rw [BitVec.toNat_shiftLeft, Nat.testBit_mod_two_pow]
  show (decide (j < 64) && (1 <<< (b % 64)).testBit j) = _
  rw [Nat.one_shiftLeft, Nat.testBit_two_pow]; simp [hj, eq_comm]
theorem own_set_bit (g : Nat → Int64) (b c : Nat) : own_bit (own_set g b) c = (own_bit g c || decide (c = b)) := by
  unfold own_bit own_set upJ
  have hc : c % 64 < 64 := Nat.mod_lt _ (by decide)
  by_cases q : c / 64 = b / 64
  · rw [if_pos q, q]
    show (((g (b / 64)).toBitVec ||| (own_one b).toBitVec).toNat).testBit (c % 64) = _
    rw [BitVec.toNat_or, Nat.testBit_or, own_one_bit b _ hc]
    congr 1
    have : (c % 64 = b % 64) ↔ (c = b) := by omega
    simp [this]
  · rw [if_neg q]
    have : ¬ c = b := fun e => q (by rw [e])
    simp [this]
def own_cnt (gc : Nat → Int32) (g : Nat → Int64) (b i : Nat) : Int32 := gc i + (if own_bit g (b + i) then 0 else 1)
/-- what of a word isn't covered, from its bit o on -/
theorem own_unc (x : Int64) (s : Int32) (o : Nat) (ho : o < 64) (hs : s.toInt = (o : Int)) (j : Nat) : (((x ^^^ (-1 : Int64)).toUInt64 >>> (s &&& 0x3f).toInt64.toUInt64).toInt64).toBitVec.toNat.testBit j = (decide (o + j < 64) && !x.toBitVec.toNat.testBit (o + j)) := by
  have hk : s.toBitVec.toNat % 64 = o := by
    have h1 : s.toInt = s.toBitVec.toInt := rfl
    rw [h1, BitVec.toInt_eq_toNat_cond] at hs
    split at hs <;> omega
  have h := sm64 s o hk
  have e : (((x ^^^ (-1 : Int64)).toUInt64 >>> (s &&& 0x3f).toInt64.toUInt64).toInt64).toBitVec = (x.toBitVec ^^^ 18446744073709551615#64) >>> o := by
    show (x.toBitVec ^^^ 18446744073709551615#64) >>> (((s &&& 0x3f).toInt64).toBitVec % 64#64).toNat = _
    rw [h.1]
    congr 1
    rw [BitVec.toNat_umod, BitVec.toNat_ofNat]
    show o % 2 ^ 64 % 64 = o
    omega
  rw [e, BitVec.toNat_ushiftRight, Nat.testBit_shiftRight, BitVec.toNat_xor, Nat.testBit_xor]
  have : (18446744073709551615#64).toNat = 2 ^ 64 - 1 := rfl
  rw [this, Nat.testBit_two_pow_sub_one]
  by_cases c : o + j < 64
  · simp [c]
  · have : x.toBitVec.toNat.testBit (o + j) = false := Nat.testBit_lt_two_pow (Nat.lt_of_lt_of_le x.toBitVec.isLt (Nat.pow_le_pow_right (by decide) (by omega)))
    simp [c, this]
/-- only the first r bits -/
theorem own_msk (x : Int64) (s : Int32) (r : Nat) (hr : r < 64) (hs : s.toInt = (r : Int)) (j : Nat) : (x &&& (((1 : Int64) <<< (s &&& 0x3f).toInt64) - (1 : Int64))).toBitVec.toNat.testBit j = (x.toBitVec.toNat.testBit j && decide (j < r)) := by
  have hk : s.toBitVec.toNat % 64 = r := by
    have h1 : s.toInt = s.toBitVec.toInt := rfl
    rw [h1, BitVec.toInt_eq_toNat_cond] at hs
    split at hs <;> omega
  show (x.toBitVec &&& (((1 : Int64) <<< (s &&& 0x3f).toInt64).toBitVec - 1#64)).toNat.testBit j = _
  rw [own_sh_k _ _ r hk, BitVec.toNat_and, Nat.testBit_and]
  congr 1
  have e : ((1 : Int64).toBitVec <<< r - 1#64).toNat = 2 ^ r - 1 := by
    have h1 : ((1 : Int64).toBitVec <<< r).toNat = 2 ^ r := by
      rw [BitVec.toNat_shiftLeft]
      show (1 <<< r) % 2 ^ 64 = _
      rw [Nat.one_shiftLeft]
      exact Nat.mod_eq_of_lt (Nat.pow_lt_pow_right (by decide) hr)
    rw [BitVec.toNat_sub, h1]
    have : 2 ^ r < 2 ^ 64 := Nat.pow_lt_pow_right (by decide) hr
    have : 0 < 2 ^ r := Nat.two_pow_pos r
    show (2 ^ 64 - 1 + 2 ^ r) % 2 ^ 64 = _
    omega
  rw [e, Nat.testBit_two_pow_sub_one]
/-- the words from a bit on, bit by bit -/
theorem own_word (g : Nat → Int64) (b j : Nat) (h : b % 64 + j < 64) : (g (b / 64)).toBitVec.toNat.testBit (b % 64 + j) = own_bit g (b + j) := by
  unfold own_bit
  have e1 : (b + j) / 64 = b / 64 := by omega
  have e2 : (b + j) % 64 = b % 64 + j := by omega
  rw [e1, e2]
theorem own_n0 (m : Int32) (h : 0 < m.toInt) (h2 : 65536 < m.toInt) : own_s1 ((m.toUInt32 >>> ((16 : Int32) &&& 31).toUInt32).toInt32) 17 = own_ntzM m := by unfold own_ntzM own_s0; rw [if_pos h, if_pos h2]; rfl
theorem own_n0' (m : Int32) (h : 0 < m.toInt) (h2 : ¬ 65536 < m.toInt) : own_s1 m 1 = own_ntzM m := by unfold own_ntzM own_s0; rw [if_pos h, if_neg h2]
theorem own_n1 (m n : Int32) (h : 256 < m.toInt) : own_s2 ((m.toUInt32 >>> ((8 : Int32) &&& 31).toUInt32).toInt32) (n + 8) = own_s1 m n := by unfold own_s1; rw [if_pos h]
theorem own_n1' (m n : Int32) (h : ¬ 256 < m.toInt) : own_s2 m n = own_s1 m n := by unfold own_s1; rw [if_neg h]
theorem own_n2 (m n : Int32) (h : 16 < m.toInt) : own_s3 ((m.toUInt32 >>> ((4 : Int32) &&& 31).toUInt32).toInt32) (n + 4) = own_s2 m n := by unfold own_s2; rw [if_pos h]
theorem own_n2' (m n : Int32) (h : ¬ 16 < m.toInt) : own_s3 m n = own_s2 m n := by unfold own_s2; rw [if_neg h]
theorem own_n3 (m n : Int32) (h : 4 < m.toInt) : own_s4 ((m.toUInt32 >>> ((2 : Int32) &&& 31).toUInt32).toInt32) (n + 2) = own_s3 m n := by unfold own_s3; rw [if_pos h]
theorem own_n3' (m n : Int32) (h : ¬ 4 < m.toInt) : own_s4 m n = own_s3 m n := by unfold own_s3; rw [if_neg h]
def own_min (a b : Int32) : Int32 := if b.toInt < a.toInt then b else a
def own_un (a bk a1 b1 a2 b2 : Int32) : Int32 := if (a1.toInt = a.toInt ∧ b1.toInt = bk.toInt) ∨ (a2.toInt = a.toInt ∧ b2.toInt = bk.toInt) then 0 else 1
theorem own_upN (g : Nat → Int32) (k : Nat) (n : Int) (v : Int32) (h : ∀ i, i < k → (g i).toInt = n) (hv : v.toInt = n) : ∀ i, i < k + 1 → (Jvm.OwnKit.upI g k v i).toInt = n := by
  intro i hi
  unfold Jvm.OwnKit.upI
  by_cases e : i = k
  · rw [if_pos e, hv]
  · rw [if_neg e]; exact h i (by omega)
theorem own_upR (g : Nat → Int64) (k w : Nat) (v : Int64) (h : ∀ i, i < k → (g i).toInt = ((i * w : Nat) : Int)) (hv : v.toInt = ((k * w : Nat) : Int)) : ∀ i, i < k + 1 → (Jvm.OwnKit.upJ g k v i).toInt = ((i * w : Nat) : Int) := by
  intro i hi
  unfold Jvm.OwnKit.upJ
  by_cases e : i = k
  · rw [if_pos e, hv, e]
  · rw [if_neg e]; exact h i (by omega)
def own_two (a b : Slot) : Prop := (a = .unset ∧ b = .unset) ∨ ∃ z, a = .val (.long z) ∧ b = .second
theorem own_bitsA (g : Nat → Int64) (b r : Nat) (u : Int64) (hU : ∀ j, u.toBitVec.toNat.testBit j = (decide (b % 64 + j < 64) && !(g (b / 64)).toBitVec.toNat.testBit (b % 64 + j))) (h : 64 ≤ r) (hr : r ≤ 64 - b % 64) (j : Nat) : u.toBitVec.toNat.testBit j = (decide (j < r) && !own_bit g (b + j)) := by
  rw [hU]
  by_cases q : b % 64 + j < 64
  · rw [own_word g b j q]; simp [q]; omega
  · have : ¬ j < r := by omega
    simp [q, this]
theorem own_bitsB (g : Nat → Int64) (b r : Nat) (u : Int64) (s : Int32) (hU : ∀ j, u.toBitVec.toNat.testBit j = (decide (b % 64 + j < 64) && !(g (b / 64)).toBitVec.toNat.testBit (b % 64 + j))) (hs : s.toInt = (r : Int)) (h : r < 64) (hr : r ≤ 64 - b % 64) (j : Nat) : (u &&& (((1 : Int64) <<< (s &&& 0x3f).toInt64) - (1 : Int64))).toBitVec.toNat.testBit j = (decide (j < r) && !own_bit g (b + j)) := by
  rw [own_msk u s r h hs j, hU]
  by_cases q : j < r
  · have q2 : b % 64 + j < 64 := by omega
    rw [own_word g b j q2]; simp [q, q2]
  · simp [q]
theorem own_in0 (gC gc : Nat → Int32) (g : Nat → Int64) (b d r : Nat) (u : Int64) (hU : ∀ j, u.toBitVec.toNat.testBit j = (decide (j < r) && !own_bit g (b + d + j))) (hC : ∀ i, i < 130 → gC i = if i < d then own_cnt gc g b i else gc i) : ∀ i, i < 130 → gC i + (if d ≤ i ∧ u.toBitVec.toNat.testBit (i - d) = true then (1 : Int32) else 0) = if i < d + r then own_cnt gc g b i else gc i := by
  intro i hi
  rw [hC i hi, hU]
  by_cases q : i < d
  · rw [if_pos q, if_neg (by omega), if_pos (by omega)]; exact Int32.add_zero _
  · rw [if_neg q]
    by_cases q2 : i < d + r
    · rw [if_pos q2, own_cnt]
      have e : b + d + (i - d) = b + i := by omega
      have q3 : i - d < r := by omega
      rw [e]
      congr 1
      cases own_bit g (b + i) <;> simp [q3]; omega
    · rw [if_neg q2, if_neg]
      · exact Int32.add_zero _
      · intro h; have := h.2; simp at this; omega
theorem own_inS (gD gc : Nat → Int32) (g : Nat → Int64) (b d r t : Nat) (u : Int64) (ht : t < 64) (hl : own_lsb u.toBitVec.toNat t) (h : ∀ i, i < 130 → gD i + (if d ≤ i ∧ u.toBitVec.toNat.testBit (i - d) = true then (1 : Int32) else 0) = if i < d + r then own_cnt gc g b i else gc i) :
    ∀ i, i < 130 → Jvm.OwnKit.upI gD (d + t) (gD (d + t) + (1 : Int32)) i + (if d ≤ i ∧ (u &&& (u - (1 : Int64))).toBitVec.toNat.testBit (i - d) = true then (1 : Int32) else 0) = if i < d + r then own_cnt gc g b i else gc i := by
  intro i hi
  rw [← h i hi, own_off u t ht hl]
  unfold Jvm.OwnKit.upI
  by_cases e : i = d + t
  · subst e
    rw [if_pos rfl]
    have e2 : d + t - d = t := by omega
    rw [e2]
    simp [hl.1]
  · rw [if_neg e]
    congr 1
    by_cases q : d ≤ i
    · have : i - d ≠ t := by omega
      simp [this]
    · simp [q]
theorem own_dec (u : Int64) (h : u.toBitVec.toNat ≠ 0) : (u &&& (u - (1 : Int64))).toBitVec.toNat < u.toBitVec.toNat := by
  show (u.toBitVec &&& (u.toBitVec - 1#64)).toNat < _
  have e1 : (u.toBitVec - 1#64).toNat = u.toBitVec.toNat - 1 := by
    rw [BitVec.toNat_sub]; have := u.toBitVec.isLt; simp; omega
  rw [BitVec.toNat_and, e1]
  have : u.toBitVec.toNat &&& (u.toBitVec.toNat - 1) ≤ u.toBitVec.toNat - 1 := Nat.and_le_right
  omega
theorem own_nz {x : Int32} (h : 0 < x.toInt) : x ≠ 0 := fun q => by rw [q] at h; exact absurd h (by decide)
theorem own_be (r : Int64) (c b : Int32) (k w0 w1 bn : Nat) (hr : r.toInt = ((k * w1 : Nat) : Int)) (hc : c.toInt = (w0 : Int)) (hb : b.toInt = (bn : Int)) (h0 : w0 ≤ bn) (hk : k ≤ 4) (hw : w1 ≤ 193) (hbn : bn ≤ 200) : ((r + b.toInt64) - c.toInt64).toInt = ((k * w1 + (bn - w0) : Nat) : Int) := by
  have hkm : k * w1 ≤ 4 * 193 := Nat.mul_le_mul hk hw
  have h1 := c_ladd r b.toInt64
  have h2 := c_lsub (r + b.toInt64) c.toInt64
  have h3 := c_i2l b
  have h4 := c_i2l c
  have h5 := rng64 (r + b.toInt64)
  have h6 := rng64 ((r + b.toInt64) - c.toInt64)
  generalize k * w1 = q at *
  omega
theorem own_lt (k w0 w1 r : Nat) (hk : k < w0) (hr : r < w1) : (k * w1 + r) / 64 < (w0 * w1 + 63) / 64 := by
  have h1 : (k + 1) * w1 ≤ w0 * w1 := Nat.mul_le_mul_right _ hk
  rw [Nat.succ_mul] at h1
  generalize k * w1 = q at *
  generalize w0 * w1 = q2 at *
  omega
theorem own_lt129 (k w0 w1 r : Nat) (hk : k < w0) (hr : r + 129 < w1) : (k * w1 + r + 129) / 64 < (w0 * w1 + 63) / 64 := by
  rw [Nat.add_assoc]; exact own_lt k w0 w1 _ hk hr
theorem own_uniq (x y w r s : Nat) (hr : r < w) (hs : s < w) : (x * w + r = y * w + s) ↔ (x = y ∧ r = s) := by
  constructor
  · intro h
    have hw : 0 < w := by omega
    have h1 : (x * w + r) / w = (y * w + s) / w := by rw [h]
    rw [Nat.mul_comm x w, Nat.mul_comm y w, Nat.mul_add_div hw, Nat.mul_add_div hw, Nat.div_eq_of_lt hr, Nat.div_eq_of_lt hs] at h1
    have h2 : x = y := by omega
    subst h2
    exact ⟨rfl, by omega⟩
  · rintro ⟨rfl, rfl⟩; rfl
theorem own_unk (a bk a1 b1 a2 b2 : Int32) (an bn a1n b1n a2n b2n w0 w k : Nat) (ha : a.toInt = (an : Int)) (hbk : bk.toInt = ((bn + k : Nat) : Int)) (ha1 : a1.toInt = (a1n : Int)) (hb1 : b1.toInt = (b1n : Int)) (ha2 : a2.toInt = (a2n : Int)) (hb2 : b2.toInt = (b2n : Int)) (h0 : w0 ≤ bn) (h1 : bn - w0 + k < w) (h2 : w0 ≤ b1n) (h3 : b1n - w0 < w) (h4 : w0 ≤ b2n) (h5 : b2n - w0 < w) :
    own_un a bk a1 b1 a2 b2 = if an * w + (bn - w0) + k = a1n * w + (b1n - w0) ∨ an * w + (bn - w0) + k = a2n * w + (b2n - w0) then (0 : Int32) else 1 := by
  unfold own_un
  have e1 := own_uniq an a1n w _ _ h1 h3
  have e2 := own_uniq an a2n w _ _ h1 h5
  rw [← Nat.add_assoc] at e1 e2
  refine ite_congr (propext ?_) (fun _ => rfl) (fun _ => rfl)
  rw [e1, e2]
  omega
theorem own_fin (G : Nat → Int32) (b0 b1 b2 k : Nat) (u : Int32) (hu : u = if b0 + k = b1 ∨ b0 + k = b2 then (0 : Int32) else 1) : own_cnt G (own_set (own_set (fun _ => (0 : Int64)) b1) b2) b0 k = G k + u := by
  unfold own_cnt
  rw [own_set_bit, own_set_bit, hu]
  have h0 : own_bit (fun _ => (0 : Int64)) (b0 + k) = false := by unfold own_bit; exact Nat.zero_testBit _
  rw [h0]
  congr 1
  by_cases h1 : b0 + k = b1 <;> by_cases h2 : b0 + k = b2 <;> simp [h1, h2]
theorem own_un0 {a b c d e f : Int32} (h : (own_un a b c d e f).toInt = 0) : own_un a b c d e f = 0 := Int32.toInt_inj.mp h
theorem own_un1 {a b c d e f : Int32} (h : ¬ (own_un a b c d e f).toInt = 0) : own_un a b c d e f = 1 := by
  unfold own_un at h ⊢
  split at h
  · exact absurd rfl h
  · rename_i q; rw [if_neg q]
theorem d6_0 : decode jdk_29_method_69_code 0 = .ok (.iload_n 0, 1) := by decide +kernel
theorem d6_1 : decode jdk_29_method_69_code 1 = .ok (.iload_n 1, 1) := by decide +kernel
theorem d6_2 : decode jdk_29_method_69_code 2 = .ok (.if_icmp .gt 7, 3) := by decide +kernel
theorem d6_5 : decode jdk_29_method_69_code 5 = .ok (.iload_n 0, 1) := by decide +kernel
theorem d6_6 : decode jdk_29_method_69_code 6 = .ok (.goto 4, 3) := by decide +kernel
theorem d6_10 : decode jdk_29_method_69_code 10 = .ok (.ireturn, 1) := by decide +kernel
theorem ef_rm_minA (m : MethodId) (x0 : Int32) (x1 : Int32) : entryFrame m #[(.int x0), (.int x1)] 2 = mkF m 0 #[.val (.int x0), .val (.int x1)] [] := by first | (simp [entryFrame, mkF, argsToLocals, Value.category]; done) | rfl
abbrev Q_rm_minA (Z : State) (i1 : Int32) (i2 : Int32) (h0 : Heap) (n0 : Nat) : Option Value → Heap → List Loc → Prop := fun v h L => v = some (.int i1) ∧ Fr n0 L ∧ h = h0
set_option maxRecDepth 65536 in
set_option maxHeartbeats 40000000 in
theorem rm_minA (l : Launch) (Z : State) (a0 : Array Value) (hw : ∀ d ∈ tables_1, d.before a0 Z = true) (i1 : Int32) (i2 : Int32) (h0 : Heap) (n0 : Nat) (Z0 : n0 ≤ h0.size) (y1 : i1.toInt < i2.toInt) :
    Con l Z (⟨"java/lang/Math", "min", "(II)I"⟩ : MethodName) jdk_29_method_69_code 2 (some .int) ({ frames := 0, cells := 0, slots := 0, locals := 0 } : Room) #[(.int i1), (.int i2)] h0 (Q_rm_minA Z i1 i2 h0 n0) := by
  refine meet (y := (⟨"java/lang/Math", "min", "(II)I"⟩ : MethodName)) (Q := Q_rm_minA Z i1 i2 h0 n0) (Jvm.Free.JP.mathPlain rfl (by decide +kernel)) (fun m => ef_rm_minA m i1 i2) ?_
  intro p e s m below meth c T0 hx hby hml hZ hown hnm hret hlk X0 e0
  have N0 := Fr.nil n0
  refine g_iloadN X0 hx hby d6_0 (pc' := 1) rfl rfl ?_
  refine g_iloadN X0 hx hby d6_1 (pc' := 2) rfl rfl ?_
  have hc2 : ¬ (i2.toInt < i1.toInt) := by omega
  refine g_icmpNo X0 hx hby d6_2 (pc' := 5) (flt (show ¬ (i2 < i1) from fun q => hc2 (Int32.lt_iff_toInt_lt.mp q))).2.2.1 rfl ?_
  refine g_iloadN X0 hx hby d6_5 (pc' := 6) rfl rfl ?_
  refine g_goto X0 hx hby d6_6 (pc' := 10) (by decide) (by decide) ?_
  refine Go.retI X0 hx hlk hret (hb hby d6_10) (by decide) (by decide) ?_
  exact ⟨rfl, N0, e0⟩
theorem d7_0 : decode jdk_29_method_65_code 0 = .ok (.iload_n 0, 1) := by decide +kernel
theorem d7_1 : decode jdk_29_method_65_code 1 = .ok (.iload_n 1, 1) := by decide +kernel
theorem d7_2 : decode jdk_29_method_65_code 2 = .ok (.if_icmp .lt 7, 3) := by decide +kernel
theorem d7_9 : decode jdk_29_method_65_code 9 = .ok (.iload_n 1, 1) := by decide +kernel
theorem d7_10 : decode jdk_29_method_65_code 10 = .ok (.ireturn, 1) := by decide +kernel
theorem ef_rm_maxA (m : MethodId) (x0 : Int32) (x1 : Int32) : entryFrame m #[(.int x0), (.int x1)] 2 = mkF m 0 #[.val (.int x0), .val (.int x1)] [] := by first | (simp [entryFrame, mkF, argsToLocals, Value.category]; done) | rfl
abbrev Q_rm_maxA (Z : State) (i1 : Int32) (i2 : Int32) (h0 : Heap) (n0 : Nat) : Option Value → Heap → List Loc → Prop := fun v h L => v = some (.int i2) ∧ Fr n0 L ∧ h = h0
set_option maxRecDepth 65536 in
set_option maxHeartbeats 40000000 in
theorem rm_maxA (l : Launch) (Z : State) (a0 : Array Value) (hw : ∀ d ∈ tables_1, d.before a0 Z = true) (i1 : Int32) (i2 : Int32) (h0 : Heap) (n0 : Nat) (Z0 : n0 ≤ h0.size) (y1 : i1.toInt < i2.toInt) :
    Con l Z (⟨"java/lang/Math", "max", "(II)I"⟩ : MethodName) jdk_29_method_65_code 2 (some .int) ({ frames := 0, cells := 0, slots := 0, locals := 0 } : Room) #[(.int i1), (.int i2)] h0 (Q_rm_maxA Z i1 i2 h0 n0) := by
  refine meet (y := (⟨"java/lang/Math", "max", "(II)I"⟩ : MethodName)) (Q := Q_rm_maxA Z i1 i2 h0 n0) (Jvm.Free.JP.mathPlain rfl (by decide +kernel)) (fun m => ef_rm_maxA m i1 i2) ?_
  intro p e s m below meth c T0 hx hby hml hZ hown hnm hret hlk X0 e0
  have N0 := Fr.nil n0
  refine g_iloadN X0 hx hby d7_0 (pc' := 1) rfl rfl ?_
  refine g_iloadN X0 hx hby d7_1 (pc' := 2) rfl rfl ?_
  have hc2 : i1.toInt < i2.toInt := by omega
  refine g_icmpYes X0 hx hby d7_2 (pc' := 9) (tlt (show i1 < i2 from Int32.lt_iff_toInt_lt.mpr hc2)).1 (by decide) (by decide) ?_
  refine g_iloadN X0 hx hby d7_9 (pc' := 10) rfl rfl ?_
  refine Go.retI X0 hx hlk hret (hb hby d7_10) (by decide) (by decide) ?_
  exact ⟨rfl, N0, e0⟩
theorem d6_9 : decode jdk_29_method_69_code 9 = .ok (.iload_n 1, 1) := by decide +kernel
theorem ef_rm_minG (m : MethodId) (x0 : Int32) (x1 : Int32) : entryFrame m #[(.int x0), (.int x1)] 2 = mkF m 0 #[.val (.int x0), .val (.int x1)] [] := by first | (simp [entryFrame, mkF, argsToLocals, Value.category]; done) | rfl
abbrev Q_rm_minG (Z : State) (i1 : Int32) (i2 : Int32) (h0 : Heap) (n0 : Nat) : Option Value → Heap → List Loc → Prop := fun v h L => v = some (.int (own_min i1 i2)) ∧ Fr n0 L ∧ h = h0
set_option maxRecDepth 65536 in
set_option maxHeartbeats 40000000 in
theorem rm_minG (l : Launch) (Z : State) (a0 : Array Value) (hw : ∀ d ∈ tables_1, d.before a0 Z = true) (i1 : Int32) (i2 : Int32) (h0 : Heap) (n0 : Nat) (Z0 : n0 ≤ h0.size)  :
    Con l Z (⟨"java/lang/Math", "min", "(II)I"⟩ : MethodName) jdk_29_method_69_code 2 (some .int) ({ frames := 0, cells := 0, slots := 0, locals := 0 } : Room) #[(.int i1), (.int i2)] h0 (Q_rm_minG Z i1 i2 h0 n0) := by
  refine meet (y := (⟨"java/lang/Math", "min", "(II)I"⟩ : MethodName)) (Q := Q_rm_minG Z i1 i2 h0 n0) (Jvm.Free.JP.mathPlain rfl (by decide +kernel)) (fun m => ef_rm_minG m i1 i2) ?_
  intro p e s m below meth c T0 hx hby hml hZ hown hnm hret hlk X0 e0
  have N0 := Fr.nil n0
  refine g_iloadN X0 hx hby d6_0 (pc' := 1) rfl rfl ?_
  refine g_iloadN X0 hx hby d6_1 (pc' := 2) rfl rfl ?_
  by_cases hc2 : i2.toInt < i1.toInt
  · refine g_icmpYes X0 hx hby d6_2 (pc' := 9) (tlt (show i2 < i1 from Int32.lt_iff_toInt_lt.mpr hc2)).2.2.1 (by decide) (by decide) ?_
    refine g_iloadN X0 hx hby d6_9 (pc' := 10) rfl rfl ?_
    refine Go.retI X0 hx hlk hret (hb hby d6_10) (by decide) (by decide) ?_
    exact ⟨(by rw [own_min, if_pos hc2]), N0, e0⟩
  · refine g_icmpNo X0 hx hby d6_2 (pc' := 5) (flt (show ¬ (i2 < i1) from fun q => hc2 (Int32.lt_iff_toInt_lt.mp q))).2.2.1 rfl ?_
    refine g_iloadN X0 hx hby d6_5 (pc' := 6) rfl rfl ?_
    refine g_goto X0 hx hby d6_6 (pc' := 10) (by decide) (by decide) ?_
    refine Go.retI X0 hx hlk hret (hb hby d6_10) (by decide) (by decide) ?_
    exact ⟨(by rw [own_min, if_neg hc2]), N0, e0⟩
theorem d5_0 : decode prog_31_method_9_code 0 = .ok (.iload_n 1, 1) := by decide +kernel
theorem d5_1 : decode prog_31_method_9_code 1 = .ok (.iload_n 2, 1) := by decide +kernel
theorem d5_2 : decode prog_31_method_9_code 2 = .ok (.invokestatic 52, 3) := by decide +kernel
theorem pd0 : parseMethodDescriptor "(II)I" = some ⟨[.int, .int], some .int⟩ := by decide +kernel
theorem d5_5 : decode prog_31_method_9_code 5 = .ok (.istore_n 3, 1) := by decide +kernel
theorem d5_6 : decode prog_31_method_9_code 6 = .ok (.iload_n 1, 1) := by decide +kernel
theorem d5_7 : decode prog_31_method_9_code 7 = .ok (.iload_n 2, 1) := by decide +kernel
theorem d5_8 : decode prog_31_method_9_code 8 = .ok (.invokestatic 64, 3) := by decide +kernel
theorem d5_11 : decode prog_31_method_9_code 11 = .ok (.istore 4, 2) := by decide +kernel
theorem d5_13 : decode prog_31_method_9_code 13 = .ok (.aload_n 0, 1) := by decide +kernel
theorem d5_14 : decode prog_31_method_9_code 14 = .ok (.getfield 15, 3) := by decide +kernel
theorem d5_17 : decode prog_31_method_9_code 17 = .ok (.iload_n 3, 1) := by decide +kernel
theorem d5_18 : decode prog_31_method_9_code 18 = .ok (.laload, 1) := by decide +kernel
theorem d5_19 : decode prog_31_method_9_code 19 = .ok (.iload 4, 2) := by decide +kernel
theorem d5_21 : decode prog_31_method_9_code 21 = .ok (.i2l, 1) := by decide +kernel
theorem d5_22 : decode prog_31_method_9_code 22 = .ok (.ladd, 1) := by decide +kernel
theorem d5_23 : decode prog_31_method_9_code 23 = .ok (.aload_n 0, 1) := by decide +kernel
theorem d5_24 : decode prog_31_method_9_code 24 = .ok (.getfield 9, 3) := by decide +kernel
theorem d5_27 : decode prog_31_method_9_code 27 = .ok (.iload_n 3, 1) := by decide +kernel
theorem d5_28 : decode prog_31_method_9_code 28 = .ok (.iaload, 1) := by decide +kernel
theorem d5_29 : decode prog_31_method_9_code 29 = .ok (.i2l, 1) := by decide +kernel
theorem d5_30 : decode prog_31_method_9_code 30 = .ok (.lsub, 1) := by decide +kernel
theorem d5_31 : decode prog_31_method_9_code 31 = .ok (.lreturn, 1) := by decide +kernel
theorem ef_rm_bit (m : MethodId) (x0 : Addr) (x1 : Int32) (x2 : Int32) : entryFrame m #[(.ref x0), (.int x1), (.int x2)] 5 = mkF m 0 #[.val (.ref x0), .val (.int x1), .val (.int x2), .unset, .unset] [] := by first | (simp [entryFrame, mkF, argsToLocals, Value.category]; done) | rfl
theorem pn_com_example_firstfail_firstfail_pairwise_Pairs : plainName "com/example/firstfail/firstfail/pairwise/Pairs" = true := by first | (simp [plainName, overriddenIn]; done) | decide +kernel
abbrev Q_rm_bit (Z : State) (a1 : Addr) (i1 : Int32) (i2 : Int32) (x1 : Addr) (x2 : Addr) (n1 : Nat) (g1 : Nat → Int32) (g2 : Nat → Int64) (k1 : Nat) (h0 : Heap) (n0 : Nat) : Option Value → Heap → List Loc → Prop := fun v h L => v = some (.long (((g2 k1) + (i2.toInt64)) - ((g1 k1).toInt64))) ∧ Fr n0 L ∧ h = h0
set_option maxRecDepth 65536 in
set_option maxHeartbeats 40000000 in
theorem rm_bit (l : Launch) (Z : State) (a0 : Array Value) (hw : ∀ d ∈ tables_1, d.before a0 Z = true) (a1 : Addr) (i1 : Int32) (i2 : Int32) (x1 : Addr) (x2 : Addr) (n1 : Nat) (g1 : Nat → Int32) (g2 : Nat → Int64) (k1 : Nat) (h0 : Heap) (n0 : Nat) (Z0 : n0 ≤ h0.size) (P0 : Fld Z h0 a1 "com/example/firstfail/firstfail/pairwise/Pairs" "nextColumn" "[I" (.ref x1)) (P1 : Fld Z h0 a1 "com/example/firstfail/firstfail/pairwise/Pairs" "rowStart" "[J" (.ref x2)) (P2 : ArF Z h0 x1 .int n1 (fun i => .int (g1 i))) (P3 : ArF Z h0 x2 .long n1 (fun i => .long (g2 i))) (hlt : i1.toInt < i2.toInt) (hk : i1.toInt = (k1 : Int)) (hkn : k1 < n1) :
    Con l Z (⟨"com/example/firstfail/firstfail/pairwise/Pairs", "bit", "(II)J"⟩ : MethodName) prog_31_method_9_code 5 (some .long) ({ frames := 1, cells := 0, slots := 0, locals := 13 } : Room) #[(.ref a1), (.int i1), (.int i2)] h0 (Q_rm_bit Z a1 i1 i2 x1 x2 n1 g1 g2 k1 h0 n0) := by
  refine meet (y := (⟨"com/example/firstfail/firstfail/pairwise/Pairs", "bit", "(II)J"⟩ : MethodName)) (Q := Q_rm_bit Z a1 i1 i2 x1 x2 n1 g1 g2 k1 h0 n0) (plainFor_of_name pn_com_example_firstfail_firstfail_pairwise_Pairs) (fun m => ef_rm_bit m a1 i1 i2) ?_
  intro p e s m below meth c T0 hx hby hml hZ hown hnm hret hlk X0 e0
  have N0 := Fr.nil n0
  refine g_iloadN X0 hx hby d5_0 (pc' := 1) rfl rfl ?_
  refine g_iloadN X0 hx hby d5_1 (pc' := 2) rfl rfl ?_
  refine Go.callS X0 hx hZ hown (wi hw 38 rfl) (wi hw 39 rfl) (wi hw 40 rfl) (wi hw 41 rfl) (by decide) e0 (argsL := [(.int i1), (.int i2)]) (rest := []) (W := 0) (rm_minA l Z a0 hw i1 i2 h0 n0 Z0 hlt) (hb hby d5_2) (by rw [hml]; rfl) rfl pd0 rfl rfl (by decide) (by decide) (by decide) (by decide) ?_
  intro v1 T1 L1 X1 hQ1
  obtain ⟨rfl, Nq1, hh1⟩ := hQ1
  have N1 := Fr.app N0 Nq1
  refine Go.push (pc' := 5) rfl ?_
  refine g_istoreN X1 hx hby d5_5 (pc' := 6) rfl (L' := #[.val (.ref a1), .val (.int i1), .val (.int i2), .val (.int i1), .unset]) rfl ?_
  refine g_iloadN X1 hx hby d5_6 (pc' := 7) rfl rfl ?_
  refine g_iloadN X1 hx hby d5_7 (pc' := 8) rfl rfl ?_
  refine Go.callS X1 hx hZ hown (wi hw 42 rfl) (wi hw 43 rfl) (wi hw 40 rfl) (wi hw 44 rfl) (by decide) hh1 (argsL := [(.int i1), (.int i2)]) (rest := []) (W := 0) (rm_maxA l Z a0 hw i1 i2 h0 n0 Z0 hlt) (hb hby d5_8) (by rw [hml]; rfl) rfl pd0 rfl rfl (by decide) (by decide) (by decide) (by decide) ?_
  intro v2 T2 L2 X2 hQ2
  obtain ⟨rfl, Nq2, hh2⟩ := hQ2
  have N2 := Fr.app N1 Nq2
  refine Go.push (pc' := 11) rfl ?_
  refine g_istore X2 hx hby d5_11 (pc' := 13) rfl (L' := #[.val (.ref a1), .val (.int i1), .val (.int i2), .val (.int i1), .val (.int i2)]) rfl ?_
  refine g_aloadN X2 hx hby d5_13 (pc' := 14) rfl rfl rfl ?_
  refine g_getf X2 hx hby hZ hown (host := "") (Or.inl (wi hw 17 rfl)) Via.refl hh2 P1 d5_14 (pc' := 17) rfl ?_
  intro T3 X3 e3
  refine g_iloadN X3 hx hby d5_17 (pc' := 18) rfl rfl ?_
  refine Go.laload X3 hx hZ e3 P3 (k := k1) hk hkn rfl (hb hby d5_18) (pc' := 19) rfl ?_
  refine g_iload X3 hx hby d5_19 (pc' := 21) rfl rfl ?_
  refine g_i2l X3 hx hby d5_21 (pc' := 22) rfl rfl ?_
  refine g_ladd X3 hx hby d5_22 (pc' := 23) rfl rfl ?_
  refine g_aloadN X3 hx hby d5_23 (pc' := 24) rfl rfl rfl ?_
  refine g_getf X3 hx hby hZ hown (host := "") (Or.inl (wi hw 14 rfl)) Via.refl e3 P0 d5_24 (pc' := 27) rfl ?_
  intro T4 X4 e4
  refine g_iloadN X4 hx hby d5_27 (pc' := 28) rfl rfl ?_
  refine Go.iaload X4 hx hZ e4 P2 (k := k1) hk hkn rfl (hb hby d5_28) (pc' := 29) rfl ?_
  refine g_i2l X4 hx hby d5_29 (pc' := 30) rfl rfl ?_
  refine g_lsub X4 hx hby d5_30 (pc' := 31) rfl rfl ?_
  refine Go.retL X4 hx hlk hret (hb hby d5_31) (by decide) (by decide) ?_
  exact ⟨rfl, N2, e4⟩
theorem d4_0 : decode prog_31_method_8_code 0 = .ok (.aload_n 0, 1) := by decide +kernel
theorem d4_1 : decode prog_31_method_8_code 1 = .ok (.iload_n 2, 1) := by decide +kernel
theorem d4_2 : decode prog_31_method_8_code 2 = .ok (.iload_n 3, 1) := by decide +kernel
theorem d4_3 : decode prog_31_method_8_code 3 = .ok (.invokevirtual 48, 3) := by decide +kernel
theorem pd1 : parseMethodDescriptor "(II)J" = some ⟨[.int, .int], some .long⟩ := by decide +kernel
theorem d4_6 : decode prog_31_method_8_code 6 = .ok (.lstore 4, 2) := by decide +kernel
theorem d4_8 : decode prog_31_method_8_code 8 = .ok (.aload_n 1, 1) := by decide +kernel
theorem d4_9 : decode prog_31_method_8_code 9 = .ok (.lload 4, 2) := by decide +kernel
theorem d4_11 : decode prog_31_method_8_code 11 = .ok (.ldc2_w 19, 3) := by decide +kernel
theorem d4_14 : decode prog_31_method_8_code 14 = .ok (.ldiv, 1) := by decide +kernel
theorem d4_15 : decode prog_31_method_8_code 15 = .ok (.l2i, 1) := by decide +kernel
theorem d4_16 : decode prog_31_method_8_code 16 = .ok (.dup2, 1) := by decide +kernel
theorem d4_17 : decode prog_31_method_8_code 17 = .ok (.laload, 1) := by decide +kernel
theorem d4_18 : decode prog_31_method_8_code 18 = .ok (.lconst 1, 1) := by decide +kernel
theorem d4_19 : decode prog_31_method_8_code 19 = .ok (.lload 4, 2) := by decide +kernel
theorem d4_21 : decode prog_31_method_8_code 21 = .ok (.l2i, 1) := by decide +kernel
theorem d4_22 : decode prog_31_method_8_code 22 = .ok (.lshl, 1) := by decide +kernel
theorem d4_23 : decode prog_31_method_8_code 23 = .ok (.lor, 1) := by decide +kernel
theorem d4_24 : decode prog_31_method_8_code 24 = .ok (.lastore, 1) := by decide +kernel
theorem d4_25 : decode prog_31_method_8_code 25 = .ok (.return_, 1) := by decide +kernel
theorem ef_rm_set (m : MethodId) (x0 : Addr) (x1 : Addr) (x2 : Int32) (x3 : Int32) : entryFrame m #[(.ref x0), (.ref x1), (.int x2), (.int x3)] 6 = mkF m 0 #[.val (.ref x0), .val (.ref x1), .val (.int x2), .val (.int x3), .unset, .unset] [] := by first | (simp [entryFrame, mkF, argsToLocals, Value.category]; done) | rfl
abbrev Q_rm_set (Z : State) (a1 : Addr) (x3 : Addr) (i1 : Int32) (i2 : Int32) (x1 : Addr) (x2 : Addr) (n1 : Nat) (g1 : Nat → Int32) (g2 : Nat → Int64) (k1 : Nat) (n3 : Nat) (g3 : Nat → Int64) (be : Nat) (h0 : Heap) (n0 : Nat) : Option Value → Heap → List Loc → Prop := fun v h L => v = none ∧ Fr n0 L ∧ Keep h0 h [x3] ∧ ArF Z h x3 .long n3 (fun i => .long ((own_set g3 be) i))
set_option maxRecDepth 65536 in
set_option maxHeartbeats 40000000 in
theorem rm_set (l : Launch) (Z : State) (a0 : Array Value) (hw : ∀ d ∈ tables_1, d.before a0 Z = true) (a1 : Addr) (x3 : Addr) (i1 : Int32) (i2 : Int32) (x1 : Addr) (x2 : Addr) (n1 : Nat) (g1 : Nat → Int32) (g2 : Nat → Int64) (k1 : Nat) (n3 : Nat) (g3 : Nat → Int64) (be : Nat) (h0 : Heap) (n0 : Nat) (Z0 : n0 ≤ h0.size) (P0 : Exa Z h0 a1 "com/example/firstfail/firstfail/pairwise/Pairs") (P1 : Fld Z h0 a1 "com/example/firstfail/firstfail/pairwise/Pairs" "nextColumn" "[I" (.ref x1)) (P2 : Fld Z h0 a1 "com/example/firstfail/firstfail/pairwise/Pairs" "rowStart" "[J" (.ref x2)) (P3 : ArF Z h0 x1 .int n1 (fun i => .int (g1 i))) (P4 : ArF Z h0 x2 .long n1 (fun i => .long (g2 i))) (P5 : ArF Z h0 x3 .long n3 (fun i => .long (g3 i))) (ge_x3 : n0 ≤ x3) (hlt : i1.toInt < i2.toInt) (hk : i1.toInt = (k1 : Int)) (hkn : k1 < n1) (hbe : (((g2 k1) + (i2.toInt64)) - ((g1 k1).toInt64)).toInt = (be : Int)) (hb3 : be / 64 < n3) :
    Con l Z (⟨"com/example/firstfail/firstfail/pairwise/Pairs", "set", "([JII)V"⟩ : MethodName) prog_31_method_8_code 6 none ({ frames := 2, cells := 0, slots := 0, locals := 29 } : Room) #[(.ref a1), (.ref x3), (.int i1), (.int i2)] h0 (Q_rm_set Z a1 x3 i1 i2 x1 x2 n1 g1 g2 k1 n3 g3 be h0 n0) := by
  refine meet (y := (⟨"com/example/firstfail/firstfail/pairwise/Pairs", "set", "([JII)V"⟩ : MethodName)) (Q := Q_rm_set Z a1 x3 i1 i2 x1 x2 n1 g1 g2 k1 n3 g3 be h0 n0) (plainFor_of_name pn_com_example_firstfail_firstfail_pairwise_Pairs) (fun m => ef_rm_set m a1 x3 i1 i2) ?_
  intro p e s m below meth c T0 hx hby hml hZ hown hnm hret hlk X0 e0
  have N0 := Fr.nil n0
  have K0 := Keep.refl h0 [x3]
  refine g_aloadN X0 hx hby d4_0 (pc' := 1) rfl rfl rfl ?_
  refine g_iloadN X0 hx hby d4_1 (pc' := 2) rfl rfl ?_
  refine g_iloadN X0 hx hby d4_2 (pc' := 3) rfl rfl ?_
  refine Go.callP X0 hx hZ (y := (⟨"com/example/firstfail/firstfail/pairwise/Pairs", "bit", "(II)J"⟩ : MethodName)) hown (wi hw 34 rfl) (wi hw 35 rfl) (wi hw 6 rfl) (wi hw 36 rfl) (wi hw 7 rfl) (wi hw 37 rfl) (by decide) e0 (a := a1)  (argsL := [(.int i1), (.int i2)]) (rest := []) (W := 0) P0 (rm_bit l Z a0 hw a1 i1 i2 x1 x2 n1 g1 g2 k1 h0 n0 Z0 P1 P2 P3 P4 hlt hk hkn) (hb hby d4_3) (by rw [hml]; rfl) rfl pd1 rfl rfl (by decide) (by decide) (by decide) (by decide) ?_
  intro v1 T1 L1 X1 hQ1
  obtain ⟨rfl, Nq1, hh1⟩ := hQ1
  have N1 := Fr.app N0 Nq1
  refine Go.push (pc' := 6) rfl ?_
  generalize hv2 : (((g2 k1) + (i2.toInt64)) - ((g1 k1).toInt64)) = v2
  refine g_lstore X1 hx hby d4_6 (pc' := 8) rfl (L' := #[.val (.ref a1), .val (.ref x3), .val (.int i1), .val (.int i2), .val (.long v2), .second]) rfl ?_
  have hvb : v2.toInt = (be : Int) := by rw [← hv2]; exact hbe
  have hb31 : be / 64 < 2 ^ 31 := Nat.lt_trans hb3 P5.len
  refine g_aloadN X1 hx hby d4_8 (pc' := 9) rfl rfl rfl ?_
  refine g_lload X1 hx hby d4_9 (pc' := 11) rfl rfl ?_
  refine g_ldcL X1 hx hby hZ hown (wi hw 19 rfl) d4_11 (pc' := 14) rfl ?_
  refine g_ldiv X1 hx hby d4_14 (pc' := 15) rfl (by decide) rfl ?_
  refine g_l2i X1 hx hby d4_15 (pc' := 16) rfl rfl ?_
  refine g_dup2 X1 hx hby d4_16 (pc' := 17) rfl rfl rfl ?_
  refine Go.laload X1 hx hZ hh1 P5 (k := (be / 64)) (own_ix v2 be hvb hb31) hb3 rfl (hb hby d4_17) (pc' := 18) rfl ?_
  refine Go.of (fun _ k => XS.lconst X1.here hx rfl (hb hby d4_18) k) ?_
  show Go p.tables e below s _ _ _ (T1.setTop (mkF m 19 #[.val (.ref a1), .val (.ref x3), .val (.int i1), .val (.int i2), .val (.long v2), .second] [(.long (1 : Int64)), (.long (g3 (be / 64))), (.int ((v2 / (64 : Int64)).toInt32)), (.ref x3)]))
  refine g_lload X1 hx hby d4_19 (pc' := 21) rfl rfl ?_
  refine g_l2i X1 hx hby d4_21 (pc' := 22) rfl rfl ?_
  refine g_lshl X1 hx hby d4_22 (pc' := 23) rfl rfl ?_
  refine g_lor X1 hx hby d4_23 (pc' := 24) rfl rfl ?_
  refine Go.lastore X1 hx hZ hh1 P5 (k := (be / 64)) (own_ix v2 be hvb hb31) hb3 (hb hby d4_24) (pc' := 25) rfl ?_
  intro T3 h3 X3 e3 W3 V3
  refine Go.retV X3 hx hlk hret (hb hby d4_25) rfl (by decide) (by decide) ?_
  have VS : ArF Z h3 x3 .long n3 (fun i => .long ((own_set g3 be) i)) := V3.congr (fun i hi => by simp only [own_set, own_sh1 v2 be hvb])
  rw [e3]
  exact ⟨rfl, (Fr.snoc X3 N1 ge_x3), (K0.wr W3 (Or.inl (List.mem_of_getElem? (i := 0) rfl))), VS⟩
theorem d3_0 : decode prog_31_method_3_code 0 = .ok (.aload_n 0, 1) := by decide +kernel
theorem d3_1 : decode prog_31_method_3_code 1 = .ok (.aload_n 0, 1) := by decide +kernel
theorem d3_2 : decode prog_31_method_3_code 2 = .ok (.getfield 34, 3) := by decide +kernel
theorem d3_5 : decode prog_31_method_3_code 5 = .ok (.iload_n 1, 1) := by decide +kernel
theorem d3_6 : decode prog_31_method_3_code 6 = .ok (.iload_n 2, 1) := by decide +kernel
theorem d3_7 : decode prog_31_method_3_code 7 = .ok (.invokevirtual 44, 3) := by decide +kernel
theorem pd2 : parseMethodDescriptor "([JII)V" = some ⟨[(.array .long), .int, .int], none⟩ := by decide +kernel
theorem d3_10 : decode prog_31_method_3_code 10 = .ok (.return_, 1) := by decide +kernel
theorem ef_rm_cover (m : MethodId) (x0 : Addr) (x1 : Int32) (x2 : Int32) : entryFrame m #[(.ref x0), (.int x1), (.int x2)] 3 = mkF m 0 #[.val (.ref x0), .val (.int x1), .val (.int x2)] [] := by first | (simp [entryFrame, mkF, argsToLocals, Value.category]; done) | rfl
abbrev Q_rm_cover (Z : State) (a1 : Addr) (i1 : Int32) (i2 : Int32) (x1 : Addr) (x2 : Addr) (n1 : Nat) (g1 : Nat → Int32) (g2 : Nat → Int64) (k1 : Nat) (x3 : Addr) (n3 : Nat) (g3 : Nat → Int64) (be : Nat) (h0 : Heap) (n0 : Nat) : Option Value → Heap → List Loc → Prop := fun v h L => v = none ∧ Fr n0 L ∧ Keep h0 h [x3] ∧ ArF Z h x3 .long n3 (fun i => .long ((own_set g3 be) i))
set_option maxRecDepth 65536 in
set_option maxHeartbeats 40000000 in
theorem rm_cover (l : Launch) (Z : State) (a0 : Array Value) (hw : ∀ d ∈ tables_1, d.before a0 Z = true) (a1 : Addr) (i1 : Int32) (i2 : Int32) (x1 : Addr) (x2 : Addr) (n1 : Nat) (g1 : Nat → Int32) (g2 : Nat → Int64) (k1 : Nat) (x3 : Addr) (n3 : Nat) (g3 : Nat → Int64) (be : Nat) (h0 : Heap) (n0 : Nat) (Z0 : n0 ≤ h0.size) (P0 : Exa Z h0 a1 "com/example/firstfail/firstfail/pairwise/Pairs") (P1 : Fld Z h0 a1 "com/example/firstfail/firstfail/pairwise/Pairs" "nextColumn" "[I" (.ref x1)) (P2 : Fld Z h0 a1 "com/example/firstfail/firstfail/pairwise/Pairs" "rowStart" "[J" (.ref x2)) (P3 : ArF Z h0 x1 .int n1 (fun i => .int (g1 i))) (P4 : ArF Z h0 x2 .long n1 (fun i => .long (g2 i))) (P5 : Fld Z h0 a1 "com/example/firstfail/firstfail/pairwise/Pairs" "covered" "[J" (.ref x3)) (P6 : ArF Z h0 x3 .long n3 (fun i => .long (g3 i))) (ge_x3 : n0 ≤ x3) (hlt : i1.toInt < i2.toInt) (hk : i1.toInt = (k1 : Int)) (hkn : k1 < n1) (hbe : (((g2 k1) + (i2.toInt64)) - ((g1 k1).toInt64)).toInt = (be : Int)) (hb3 : be / 64 < n3) :
    Con l Z (⟨"com/example/firstfail/firstfail/pairwise/Pairs", "cover", "(II)V"⟩ : MethodName) prog_31_method_3_code 3 none ({ frames := 3, cells := 0, slots := 0, locals := 46 } : Room) #[(.ref a1), (.int i1), (.int i2)] h0 (Q_rm_cover Z a1 i1 i2 x1 x2 n1 g1 g2 k1 x3 n3 g3 be h0 n0) := by
  refine meet (y := (⟨"com/example/firstfail/firstfail/pairwise/Pairs", "cover", "(II)V"⟩ : MethodName)) (Q := Q_rm_cover Z a1 i1 i2 x1 x2 n1 g1 g2 k1 x3 n3 g3 be h0 n0) (plainFor_of_name pn_com_example_firstfail_firstfail_pairwise_Pairs) (fun m => ef_rm_cover m a1 i1 i2) ?_
  intro p e s m below meth c T0 hx hby hml hZ hown hnm hret hlk X0 e0
  have N0 := Fr.nil n0
  have K0 := Keep.refl h0 [x3]
  refine g_aloadN X0 hx hby d3_0 (pc' := 1) rfl rfl rfl ?_
  refine g_aloadN X0 hx hby d3_1 (pc' := 2) rfl rfl rfl ?_
  refine g_getf X0 hx hby hZ hown (host := "") (Or.inl (wi hw 21 rfl)) Via.refl e0 P5 d3_2 (pc' := 5) rfl ?_
  intro T1 X1 e1
  refine g_iloadN X1 hx hby d3_5 (pc' := 6) rfl rfl ?_
  refine g_iloadN X1 hx hby d3_6 (pc' := 7) rfl rfl ?_
  refine Go.callP X1 hx hZ (y := (⟨"com/example/firstfail/firstfail/pairwise/Pairs", "set", "([JII)V"⟩ : MethodName)) hown (wi hw 30 rfl) (wi hw 31 rfl) (wi hw 6 rfl) (wi hw 32 rfl) (wi hw 7 rfl) (wi hw 33 rfl) (by decide) e1 (a := a1)  (argsL := [(.ref x3), (.int i1), (.int i2)]) (rest := []) (W := 0) P0 (rm_set l Z a0 hw a1 x3 i1 i2 x1 x2 n1 g1 g2 k1 n3 g3 be h0 n0 Z0 P0 P1 P2 P3 P4 P6 ge_x3 hlt hk hkn hbe hb3) (hb hby d3_7) (by rw [hml]; rfl) rfl pd2 rfl rfl (by decide) (by decide) (by decide) (by decide) ?_
  intro v2 T2 L2 X2 hQ2
  obtain ⟨h2, e2⟩ : ∃ z, T2.heap = z := ⟨_, rfl⟩
  rw [e2] at hQ2
  obtain ⟨rfl, Nq2, Kq2, Fq0_2⟩ := hQ2
  have N2 := Fr.app N0 Nq2
  refine Go.void (pc' := 10) rfl ?_
  refine Go.retV X2 hx hlk hret (hb hby d3_10) rfl (by decide) (by decide) ?_
  rw [e2]
  exact ⟨rfl, N2, (K0.trans Kq2 (allS (Or.inl (List.mem_of_getElem? (i := 0) rfl)) all0)), Fq0_2⟩
theorem d10_0 : decode jdk_33_method_48_code 0 = .ok (.iload_n 0, 1) := by decide +kernel
theorem d10_1 : decode jdk_33_method_48_code 1 = .ok (.iconst (-1), 1) := by decide +kernel
theorem d10_2 : decode jdk_33_method_48_code 2 = .ok (.ixor, 1) := by decide +kernel
theorem d10_3 : decode jdk_33_method_48_code 3 = .ok (.iload_n 0, 1) := by decide +kernel
theorem d10_4 : decode jdk_33_method_48_code 4 = .ok (.iconst 1, 1) := by decide +kernel
theorem d10_5 : decode jdk_33_method_48_code 5 = .ok (.isub, 1) := by decide +kernel
theorem d10_6 : decode jdk_33_method_48_code 6 = .ok (.iand, 1) := by decide +kernel
theorem d10_7 : decode jdk_33_method_48_code 7 = .ok (.istore_n 0, 1) := by decide +kernel
theorem d10_8 : decode jdk_33_method_48_code 8 = .ok (.iload_n 0, 1) := by decide +kernel
theorem d10_9 : decode jdk_33_method_48_code 9 = .ok (.ifCond .gt 8, 3) := by decide +kernel
theorem d10_17 : decode jdk_33_method_48_code 17 = .ok (.iconst 1, 1) := by decide +kernel
theorem d10_18 : decode jdk_33_method_48_code 18 = .ok (.istore_n 1, 1) := by decide +kernel
theorem d10_74 : decode jdk_33_method_48_code 74 = .ok (.iload_n 1, 1) := by decide +kernel
theorem d10_75 : decode jdk_33_method_48_code 75 = .ok (.iload_n 0, 1) := by decide +kernel
theorem d10_76 : decode jdk_33_method_48_code 76 = .ok (.iconst 1, 1) := by decide +kernel
theorem d10_77 : decode jdk_33_method_48_code 77 = .ok (.iushr, 1) := by decide +kernel
theorem d10_78 : decode jdk_33_method_48_code 78 = .ok (.iadd, 1) := by decide +kernel
theorem d10_79 : decode jdk_33_method_48_code 79 = .ok (.ireturn, 1) := by decide +kernel
theorem d10_62 : decode jdk_33_method_48_code 62 = .ok (.iload_n 0, 1) := by decide +kernel
theorem d10_63 : decode jdk_33_method_48_code 63 = .ok (.iconst 4, 1) := by decide +kernel
theorem d10_64 : decode jdk_33_method_48_code 64 = .ok (.if_icmp .le 10, 3) := by decide +kernel
theorem d10_67 : decode jdk_33_method_48_code 67 = .ok (.iinc 1 2, 3) := by decide +kernel
theorem d10_70 : decode jdk_33_method_48_code 70 = .ok (.iload_n 0, 1) := by decide +kernel
theorem d10_71 : decode jdk_33_method_48_code 71 = .ok (.iconst 2, 1) := by decide +kernel
theorem d10_72 : decode jdk_33_method_48_code 72 = .ok (.iushr, 1) := by decide +kernel
theorem d10_73 : decode jdk_33_method_48_code 73 = .ok (.istore_n 0, 1) := by decide +kernel
theorem d10_49 : decode jdk_33_method_48_code 49 = .ok (.iload_n 0, 1) := by decide +kernel
theorem d10_50 : decode jdk_33_method_48_code 50 = .ok (.bipush 16, 2) := by decide +kernel
theorem d10_52 : decode jdk_33_method_48_code 52 = .ok (.if_icmp .le 10, 3) := by decide +kernel
theorem d10_55 : decode jdk_33_method_48_code 55 = .ok (.iinc 1 4, 3) := by decide +kernel
theorem d10_58 : decode jdk_33_method_48_code 58 = .ok (.iload_n 0, 1) := by decide +kernel
theorem d10_59 : decode jdk_33_method_48_code 59 = .ok (.iconst 4, 1) := by decide +kernel
theorem d10_60 : decode jdk_33_method_48_code 60 = .ok (.iushr, 1) := by decide +kernel
theorem d10_61 : decode jdk_33_method_48_code 61 = .ok (.istore_n 0, 1) := by decide +kernel
theorem d10_34 : decode jdk_33_method_48_code 34 = .ok (.iload_n 0, 1) := by decide +kernel
theorem d10_35 : decode jdk_33_method_48_code 35 = .ok (.sipush 256, 3) := by decide +kernel
theorem d10_38 : decode jdk_33_method_48_code 38 = .ok (.if_icmp .le 11, 3) := by decide +kernel
theorem d10_41 : decode jdk_33_method_48_code 41 = .ok (.iinc 1 8, 3) := by decide +kernel
theorem d10_44 : decode jdk_33_method_48_code 44 = .ok (.iload_n 0, 1) := by decide +kernel
theorem d10_45 : decode jdk_33_method_48_code 45 = .ok (.bipush 8, 2) := by decide +kernel
theorem d10_47 : decode jdk_33_method_48_code 47 = .ok (.iushr, 1) := by decide +kernel
theorem d10_48 : decode jdk_33_method_48_code 48 = .ok (.istore_n 0, 1) := by decide +kernel
theorem d10_19 : decode jdk_33_method_48_code 19 = .ok (.iload_n 0, 1) := by decide +kernel
theorem d10_20 : decode jdk_33_method_48_code 20 = .ok (.ldc_w 264, 3) := by decide +kernel
theorem d10_23 : decode jdk_33_method_48_code 23 = .ok (.if_icmp .le 11, 3) := by decide +kernel
theorem d10_26 : decode jdk_33_method_48_code 26 = .ok (.iinc 1 16, 3) := by decide +kernel
theorem d10_29 : decode jdk_33_method_48_code 29 = .ok (.iload_n 0, 1) := by decide +kernel
theorem d10_30 : decode jdk_33_method_48_code 30 = .ok (.bipush 16, 2) := by decide +kernel
theorem d10_32 : decode jdk_33_method_48_code 32 = .ok (.iushr, 1) := by decide +kernel
theorem d10_33 : decode jdk_33_method_48_code 33 = .ok (.istore_n 0, 1) := by decide +kernel
theorem d10_12 : decode jdk_33_method_48_code 12 = .ok (.iload_n 0, 1) := by decide +kernel
theorem d10_13 : decode jdk_33_method_48_code 13 = .ok (.bipush 32, 2) := by decide +kernel
theorem d10_15 : decode jdk_33_method_48_code 15 = .ok (.iand, 1) := by decide +kernel
theorem d10_16 : decode jdk_33_method_48_code 16 = .ok (.ireturn, 1) := by decide +kernel
theorem ef_rm_ntzI (m : MethodId) (x0 : Int32) : entryFrame m #[(.int x0)] 2 = mkF m 0 #[.val (.int x0), .unset] [] := by first | (simp [entryFrame, mkF, argsToLocals, Value.category]; done) | rfl
theorem pn_java_lang_Integer : plainName "java/lang/Integer" = true := by first | (simp [plainName, overriddenIn]; done) | decide +kernel
abbrev Q_rm_ntzI (Z : State) (i1 : Int32) (h0 : Heap) (n0 : Nat) : Option Value → Heap → List Loc → Prop := fun v h L => v = some (.int (own_ntzM (own_tm i1))) ∧ Fr n0 L ∧ h = h0
set_option maxRecDepth 65536 in
set_option maxHeartbeats 40000000 in
theorem rm_ntzI (l : Launch) (Z : State) (a0 : Array Value) (hw : ∀ d ∈ tables_1, d.before a0 Z = true) (i1 : Int32) (h0 : Heap) (n0 : Nat) (Z0 : n0 ≤ h0.size)  :
    Con l Z (⟨"java/lang/Integer", "numberOfTrailingZeros", "(I)I"⟩ : MethodName) jdk_33_method_48_code 2 (some .int) ({ frames := 0, cells := 0, slots := 0, locals := 0 } : Room) #[(.int i1)] h0 (Q_rm_ntzI Z i1 h0 n0) := by
  refine meet (y := (⟨"java/lang/Integer", "numberOfTrailingZeros", "(I)I"⟩ : MethodName)) (Q := Q_rm_ntzI Z i1 h0 n0) (plainFor_of_name pn_java_lang_Integer) (fun m => ef_rm_ntzI m i1) ?_
  intro p e s m below meth c T0 hx hby hml hZ hown hnm hret hlk X0 e0
  have N0 := Fr.nil n0
  refine g_iloadN X0 hx hby d10_0 (pc' := 1) rfl rfl ?_
  refine g_iconst X0 hx hby d10_1 (pc' := 2) rfl (z := (-1 : Int32)) rfl ?_
  refine g_ixor X0 hx hby d10_2 (pc' := 3) rfl rfl ?_
  refine g_iloadN X0 hx hby d10_3 (pc' := 4) rfl rfl ?_
  refine g_iconst X0 hx hby d10_4 (pc' := 5) rfl (z := (1 : Int32)) rfl ?_
  refine g_isub X0 hx hby d10_5 (pc' := 6) rfl rfl ?_
  refine g_iand X0 hx hby d10_6 (pc' := 7) rfl rfl ?_
  generalize hv1 : ((i1 ^^^ (-1 : Int32)) &&& (i1 - (1 : Int32))) = v1
  refine g_istoreN X0 hx hby d10_7 (pc' := 8) rfl (L' := #[.val (.int v1), .unset]) rfl ?_
  have hv' : own_tm i1 = v1 := hv1
  refine g_iloadN X0 hx hby d10_8 (pc' := 9) rfl rfl ?_
  by_cases hc9 : (0 : Int) < v1.toInt
  · refine g_ifYes X0 hx hby d10_9 (pc' := 17) (tlt (show (0 : Int32) < v1 from Int32.lt_iff_toInt_lt.mpr hc9)).2.2.1 (by decide) (by decide) ?_
    refine g_iconst X0 hx hby d10_17 (pc' := 18) rfl (z := (1 : Int32)) rfl ?_
    refine g_istoreN X0 hx hby d10_18 (pc' := 19) rfl (L' := #[.val (.int v1), .val (.int (1 : Int32))]) rfl ?_
    refine Go.join (α := Int32 × Int32) (P := fun x => (fun (m34 : Int32) (n34 : Int32) => own_s1 m34 n34 = own_ntzM (own_tm i1)) x.1 x.2) (F := fun x => (fun (m34 : Int32) (n34 : Int32) => T0.setTop (mkF m 34 #[.val (.int m34), .val (.int n34)] [])) x.1 x.2) ?_ ?_
    · rintro ⟨m34, n34⟩ hJ34
      show Go p.tables e below s _ _ _ (T0.setTop (mkF m 34 #[.val (.int m34), .val (.int n34)] []))
      replace hJ34 : own_s1 m34 n34 = own_ntzM (own_tm i1) := hJ34
      refine Go.join (α := Int32 × Int32) (P := fun x => (fun (m49 : Int32) (n49 : Int32) => own_s2 m49 n49 = own_ntzM (own_tm i1)) x.1 x.2) (F := fun x => (fun (m49 : Int32) (n49 : Int32) => T0.setTop (mkF m 49 #[.val (.int m49), .val (.int n49)] [])) x.1 x.2) ?_ ?_
      · rintro ⟨m49, n49⟩ hJ49
        show Go p.tables e below s _ _ _ (T0.setTop (mkF m 49 #[.val (.int m49), .val (.int n49)] []))
        replace hJ49 : own_s2 m49 n49 = own_ntzM (own_tm i1) := hJ49
        refine Go.join (α := Int32 × Int32) (P := fun x => (fun (m62 : Int32) (n62 : Int32) => own_s3 m62 n62 = own_ntzM (own_tm i1)) x.1 x.2) (F := fun x => (fun (m62 : Int32) (n62 : Int32) => T0.setTop (mkF m 62 #[.val (.int m62), .val (.int n62)] [])) x.1 x.2) ?_ ?_
        · rintro ⟨m62, n62⟩ hJ62
          show Go p.tables e below s _ _ _ (T0.setTop (mkF m 62 #[.val (.int m62), .val (.int n62)] []))
          replace hJ62 : own_s3 m62 n62 = own_ntzM (own_tm i1) := hJ62
          refine Go.join (α := Int32 × Int32) (P := fun x => (fun (m74 : Int32) (n74 : Int32) => own_s4 m74 n74 = own_ntzM (own_tm i1)) x.1 x.2) (F := fun x => (fun (m74 : Int32) (n74 : Int32) => T0.setTop (mkF m 74 #[.val (.int m74), .val (.int n74)] [])) x.1 x.2) ?_ ?_
          · rintro ⟨m74, n74⟩ hJ74
            show Go p.tables e below s _ _ _ (T0.setTop (mkF m 74 #[.val (.int m74), .val (.int n74)] []))
            replace hJ74 : own_s4 m74 n74 = own_ntzM (own_tm i1) := hJ74
            refine g_iloadN X0 hx hby d10_74 (pc' := 75) rfl rfl ?_
            refine g_iloadN X0 hx hby d10_75 (pc' := 76) rfl rfl ?_
            refine g_iconst X0 hx hby d10_76 (pc' := 77) rfl (z := (1 : Int32)) rfl ?_
            refine g_iushr X0 hx hby d10_77 (pc' := 78) rfl rfl ?_
            refine g_iadd X0 hx hby d10_78 (pc' := 79) rfl rfl ?_
            refine Go.retI X0 hx hlk hret (hb hby d10_79) (by decide) (by decide) ?_
            exact ⟨(by rw [← hJ74]; rfl), N0, e0⟩
          intro J74
          refine g_iloadN X0 hx hby d10_62 (pc' := 63) rfl rfl ?_
          refine g_iconst X0 hx hby d10_63 (pc' := 64) rfl (z := (4 : Int32)) rfl ?_
          by_cases hc64 : (4 : Int) < m62.toInt
          · refine g_icmpNo X0 hx hby d10_64 (pc' := 67) (tlt (show (4 : Int32) < m62 from Int32.lt_iff_toInt_lt.mpr hc64)).2.2.2 rfl ?_
            refine g_iinc X0 hx hby d10_67 (pc' := 70) rfl rfl (L' := #[.val (.int m62), .val (.int (n62 + (2 : Int32)))]) rfl ?_
            refine g_iloadN X0 hx hby d10_70 (pc' := 71) rfl rfl ?_
            refine g_iconst X0 hx hby d10_71 (pc' := 72) rfl (z := (2 : Int32)) rfl ?_
            refine g_iushr X0 hx hby d10_72 (pc' := 73) rfl rfl ?_
            generalize hv2 : ((m62.toUInt32 >>> ((2 : Int32) &&& 31).toUInt32).toInt32) = v2
            refine g_istoreN X0 hx hby d10_73 (pc' := 74) rfl (L' := #[.val (.int v2), .val (.int (n62 + (2 : Int32)))]) rfl ?_
            exact J74 (v2, (n62 + (2 : Int32))) (show own_s4 v2 (n62 + (2 : Int32)) = own_ntzM (own_tm i1) from (by have e := own_n3 m62 n62 hc64; rw [hv2] at e; exact e.trans hJ62))
          · refine g_icmpYes X0 hx hby d10_64 (pc' := 74) (flt (show ¬ ((4 : Int32) < m62) from fun q => hc64 (Int32.lt_iff_toInt_lt.mp q))).2.2.2 (by decide) (by decide) ?_
            exact J74 (m62, n62) (show own_s4 m62 n62 = own_ntzM (own_tm i1) from (own_n3' _ _ hc64).trans hJ62)
        intro J62
        refine g_iloadN X0 hx hby d10_49 (pc' := 50) rfl rfl ?_
        refine g_bipush X0 hx hby d10_50 (pc' := 52) rfl (z := (16 : Int32)) rfl ?_
        by_cases hc52 : (16 : Int) < m49.toInt
        · refine g_icmpNo X0 hx hby d10_52 (pc' := 55) (tlt (show (16 : Int32) < m49 from Int32.lt_iff_toInt_lt.mpr hc52)).2.2.2 rfl ?_
          refine g_iinc X0 hx hby d10_55 (pc' := 58) rfl rfl (L' := #[.val (.int m49), .val (.int (n49 + (4 : Int32)))]) rfl ?_
          refine g_iloadN X0 hx hby d10_58 (pc' := 59) rfl rfl ?_
          refine g_iconst X0 hx hby d10_59 (pc' := 60) rfl (z := (4 : Int32)) rfl ?_
          refine g_iushr X0 hx hby d10_60 (pc' := 61) rfl rfl ?_
          generalize hv3 : ((m49.toUInt32 >>> ((4 : Int32) &&& 31).toUInt32).toInt32) = v3
          refine g_istoreN X0 hx hby d10_61 (pc' := 62) rfl (L' := #[.val (.int v3), .val (.int (n49 + (4 : Int32)))]) rfl ?_
          exact J62 (v3, (n49 + (4 : Int32))) (show own_s3 v3 (n49 + (4 : Int32)) = own_ntzM (own_tm i1) from (by have e := own_n2 m49 n49 hc52; rw [hv3] at e; exact e.trans hJ49))
        · refine g_icmpYes X0 hx hby d10_52 (pc' := 62) (flt (show ¬ ((16 : Int32) < m49) from fun q => hc52 (Int32.lt_iff_toInt_lt.mp q))).2.2.2 (by decide) (by decide) ?_
          exact J62 (m49, n49) (show own_s3 m49 n49 = own_ntzM (own_tm i1) from (own_n2' _ _ hc52).trans hJ49)
      intro J49
      refine g_iloadN X0 hx hby d10_34 (pc' := 35) rfl rfl ?_
      refine g_sipush X0 hx hby d10_35 (pc' := 38) rfl (z := (256 : Int32)) rfl ?_
      by_cases hc38 : (256 : Int) < m34.toInt
      · refine g_icmpNo X0 hx hby d10_38 (pc' := 41) (tlt (show (256 : Int32) < m34 from Int32.lt_iff_toInt_lt.mpr hc38)).2.2.2 rfl ?_
        refine g_iinc X0 hx hby d10_41 (pc' := 44) rfl rfl (L' := #[.val (.int m34), .val (.int (n34 + (8 : Int32)))]) rfl ?_
        refine g_iloadN X0 hx hby d10_44 (pc' := 45) rfl rfl ?_
        refine g_bipush X0 hx hby d10_45 (pc' := 47) rfl (z := (8 : Int32)) rfl ?_
        refine g_iushr X0 hx hby d10_47 (pc' := 48) rfl rfl ?_
        generalize hv4 : ((m34.toUInt32 >>> ((8 : Int32) &&& 31).toUInt32).toInt32) = v4
        refine g_istoreN X0 hx hby d10_48 (pc' := 49) rfl (L' := #[.val (.int v4), .val (.int (n34 + (8 : Int32)))]) rfl ?_
        exact J49 (v4, (n34 + (8 : Int32))) (show own_s2 v4 (n34 + (8 : Int32)) = own_ntzM (own_tm i1) from (by have e := own_n1 m34 n34 hc38; rw [hv4] at e; exact e.trans hJ34))
      · refine g_icmpYes X0 hx hby d10_38 (pc' := 49) (flt (show ¬ ((256 : Int32) < m34) from fun q => hc38 (Int32.lt_iff_toInt_lt.mp q))).2.2.2 (by decide) (by decide) ?_
        exact J49 (m34, n34) (show own_s2 m34 n34 = own_ntzM (own_tm i1) from (own_n1' _ _ hc38).trans hJ34)
    intro J34
    refine g_iloadN X0 hx hby d10_19 (pc' := 20) rfl rfl ?_
    refine g_ldcwI X0 hx hby hZ hown (wi hw 59 rfl) d10_20 (pc' := 23) rfl ?_
    by_cases hc23 : (65536 : Int) < v1.toInt
    · refine g_icmpNo X0 hx hby d10_23 (pc' := 26) (tlt (show (65536 : Int32) < v1 from Int32.lt_iff_toInt_lt.mpr hc23)).2.2.2 rfl ?_
      refine g_iinc X0 hx hby d10_26 (pc' := 29) rfl rfl (L' := #[.val (.int v1), .val (.int (17 : Int32))]) rfl ?_
      refine g_iloadN X0 hx hby d10_29 (pc' := 30) rfl rfl ?_
      refine g_bipush X0 hx hby d10_30 (pc' := 32) rfl (z := (16 : Int32)) rfl ?_
      refine g_iushr X0 hx hby d10_32 (pc' := 33) rfl rfl ?_
      generalize hv5 : ((v1.toUInt32 >>> ((16 : Int32) &&& 31).toUInt32).toInt32) = v5
      refine g_istoreN X0 hx hby d10_33 (pc' := 34) rfl (L' := #[.val (.int v5), .val (.int (17 : Int32))]) rfl ?_
      exact J34 (v5, (17 : Int32)) (show own_s1 v5 (17 : Int32) = own_ntzM (own_tm i1) from (by have e := own_n0 _ hc9 hc23; rw [hv5] at e; exact e.trans (congrArg own_ntzM hv').symm))
    · refine g_icmpYes X0 hx hby d10_23 (pc' := 34) (flt (show ¬ ((65536 : Int32) < v1) from fun q => hc23 (Int32.lt_iff_toInt_lt.mp q))).2.2.2 (by decide) (by decide) ?_
      exact J34 (v1, (1 : Int32)) (show own_s1 v1 (1 : Int32) = own_ntzM (own_tm i1) from ((own_n0' _ hc9 hc23).trans (congrArg own_ntzM hv').symm))
  · refine g_ifNo X0 hx hby d10_9 (pc' := 12) (flt (show ¬ ((0 : Int32) < v1) from fun q => hc9 (Int32.lt_iff_toInt_lt.mp q))).2.2.1 rfl ?_
    refine g_iloadN X0 hx hby d10_12 (pc' := 13) rfl rfl ?_
    refine g_bipush X0 hx hby d10_13 (pc' := 15) rfl (z := (32 : Int32)) rfl ?_
    refine g_iand X0 hx hby d10_15 (pc' := 16) rfl rfl ?_
    refine Go.retI X0 hx hlk hret (hb hby d10_16) (by decide) (by decide) ?_
    exact ⟨(by rw [hv', own_ntzM, if_neg hc9]), N0, e0⟩
theorem d9_0 : decode jdk_35_method_49_code 0 = .ok (.lload_n 0, 1) := by decide +kernel
theorem d9_1 : decode jdk_35_method_49_code 1 = .ok (.l2i, 1) := by decide +kernel
theorem d9_2 : decode jdk_35_method_49_code 2 = .ok (.istore_n 2, 1) := by decide +kernel
theorem d9_3 : decode jdk_35_method_49_code 3 = .ok (.iload_n 2, 1) := by decide +kernel
theorem d9_4 : decode jdk_35_method_49_code 4 = .ok (.ifCond .ne 17, 3) := by decide +kernel
theorem d9_7 : decode jdk_35_method_49_code 7 = .ok (.bipush 32, 2) := by decide +kernel
theorem d9_9 : decode jdk_35_method_49_code 9 = .ok (.lload_n 0, 1) := by decide +kernel
theorem d9_10 : decode jdk_35_method_49_code 10 = .ok (.bipush 32, 2) := by decide +kernel
theorem d9_12 : decode jdk_35_method_49_code 12 = .ok (.lushr, 1) := by decide +kernel
theorem d9_13 : decode jdk_35_method_49_code 13 = .ok (.l2i, 1) := by decide +kernel
theorem d9_14 : decode jdk_35_method_49_code 14 = .ok (.invokestatic 311, 3) := by decide +kernel
theorem pd3 : parseMethodDescriptor "(I)I" = some ⟨[.int], some .int⟩ := by decide +kernel
theorem d9_17 : decode jdk_35_method_49_code 17 = .ok (.iadd, 1) := by decide +kernel
theorem d9_18 : decode jdk_35_method_49_code 18 = .ok (.goto 7, 3) := by decide +kernel
theorem d9_25 : decode jdk_35_method_49_code 25 = .ok (.ireturn, 1) := by decide +kernel
theorem d9_21 : decode jdk_35_method_49_code 21 = .ok (.iload_n 2, 1) := by decide +kernel
theorem d9_22 : decode jdk_35_method_49_code 22 = .ok (.invokestatic 311, 3) := by decide +kernel
theorem ef_rm_ntzL (m : MethodId) (x0 : Int64) : entryFrame m #[(.long x0)] 3 = mkF m 0 #[.val (.long x0), .second, .unset] [] := by first | (simp [entryFrame, mkF, argsToLocals, Value.category]; done) | rfl
theorem pn_java_lang_Long : plainName "java/lang/Long" = true := by first | (simp [plainName, overriddenIn]; done) | decide +kernel
abbrev Q_rm_ntzL (Z : State) (q1 : Int64) (h0 : Heap) (n0 : Nat) : Option Value → Heap → List Loc → Prop := fun v h L => v = some (.int (own_ntzL q1)) ∧ Fr n0 L ∧ h = h0
set_option maxRecDepth 65536 in
set_option maxHeartbeats 40000000 in
theorem rm_ntzL (l : Launch) (Z : State) (a0 : Array Value) (hw : ∀ d ∈ tables_1, d.before a0 Z = true) (q1 : Int64) (h0 : Heap) (n0 : Nat) (Z0 : n0 ≤ h0.size)  :
    Con l Z (⟨"java/lang/Long", "numberOfTrailingZeros", "(J)I"⟩ : MethodName) jdk_35_method_49_code 3 (some .int) ({ frames := 1, cells := 0, slots := 0, locals := 14 } : Room) #[(.long q1)] h0 (Q_rm_ntzL Z q1 h0 n0) := by
  refine meet (y := (⟨"java/lang/Long", "numberOfTrailingZeros", "(J)I"⟩ : MethodName)) (Q := Q_rm_ntzL Z q1 h0 n0) (plainFor_of_name pn_java_lang_Long) (fun m => ef_rm_ntzL m q1) ?_
  intro p e s m below meth c T0 hx hby hml hZ hown hnm hret hlk X0 e0
  have N0 := Fr.nil n0
  refine g_lloadN X0 hx hby d9_0 (pc' := 1) rfl rfl ?_
  refine g_l2i X0 hx hby d9_1 (pc' := 2) rfl rfl ?_
  generalize hv1 : (q1.toInt32) = v1
  refine g_istoreN X0 hx hby d9_2 (pc' := 3) rfl (L' := #[.val (.long q1), .second, .val (.int v1)]) rfl ?_
  refine g_iloadN X0 hx hby d9_3 (pc' := 4) rfl rfl ?_
  by_cases hc4 : v1.toInt = (0 : Int)
  · refine g_ifNo X0 hx hby d9_4 (pc' := 7) (teq (show v1 = (0 : Int32) from Int32.toInt_inj.mp hc4)).2 rfl ?_
    refine g_bipush X0 hx hby d9_7 (pc' := 9) rfl (z := (32 : Int32)) rfl ?_
    refine g_lloadN X0 hx hby d9_9 (pc' := 10) rfl rfl ?_
    refine g_bipush X0 hx hby d9_10 (pc' := 12) rfl (z := (32 : Int32)) rfl ?_
    refine g_lushr X0 hx hby d9_12 (pc' := 13) rfl rfl ?_
    refine g_l2i X0 hx hby d9_13 (pc' := 14) rfl rfl ?_
    refine Go.callS X0 hx hZ hown (wi hw 55 rfl) (wi hw 56 rfl) (wi hw 57 rfl) (wi hw 58 rfl) (by decide) e0 (argsL := [(.int (((q1.toUInt64 >>> ((32 : Int32) &&& 0x3f).toInt64.toUInt64).toInt64).toInt32))]) (rest := [(.int (32 : Int32))]) (W := 1) (rm_ntzI l Z a0 hw (((q1.toUInt64 >>> ((32 : Int32) &&& 0x3f).toInt64.toUInt64).toInt64).toInt32) h0 n0 Z0 ) (hb hby d9_14) (by rw [hml]; rfl) rfl pd3 rfl rfl (by decide) (by decide) (by decide) (by decide) ?_
    intro v2 T2 L2 X2 hQ2
    obtain ⟨rfl, Nq2, hh2⟩ := hQ2
    have N2 := Fr.app N0 Nq2
    refine Go.push (pc' := 17) rfl ?_
    refine g_iadd X2 hx hby d9_17 (pc' := 18) rfl rfl ?_
    refine g_goto X2 hx hby d9_18 (pc' := 25) (by decide) (by decide) ?_
    refine Go.retI X2 hx hlk hret (hb hby d9_25) (by decide) (by decide) ?_
    exact ⟨(by rw [own_ntzL, hv1, if_pos hc4]), N2, hh2⟩
  · refine g_ifYes X0 hx hby d9_4 (pc' := 21) (feq (show ¬ (v1 = (0 : Int32)) from fun q => hc4 (congrArg Int32.toInt q))).2 (by decide) (by decide) ?_
    refine g_iloadN X0 hx hby d9_21 (pc' := 22) rfl rfl ?_
    refine Go.callS X0 hx hZ hown (wi hw 55 rfl) (wi hw 56 rfl) (wi hw 57 rfl) (wi hw 58 rfl) (by decide) e0 (argsL := [(.int v1)]) (rest := []) (W := 0) (rm_ntzI l Z a0 hw v1 h0 n0 Z0 ) (hb hby d9_22) (by rw [hml]; rfl) rfl pd3 rfl rfl (by decide) (by decide) (by decide) (by decide) ?_
    intro v3 T3 L3 X3 hQ3
    obtain ⟨rfl, Nq3, hh3⟩ := hQ3
    have N3 := Fr.app N0 Nq3
    refine Go.push (pc' := 25) rfl ?_
    refine Go.retI X3 hx hlk hret (hb hby d9_25) (by decide) (by decide) ?_
    exact ⟨(by rw [own_ntzL, hv1, if_neg hc4]), N3, hh3⟩
theorem d11_0 : decode method_2_code 0 = .ok (.iload_n 2, 1) := by decide +kernel
theorem d11_1 : decode method_2_code 1 = .ok (.iload_n 0, 1) := by decide +kernel
theorem d11_2 : decode method_2_code 2 = .ok (.if_icmp .ne 10, 3) := by decide +kernel
theorem d11_5 : decode method_2_code 5 = .ok (.iload_n 3, 1) := by decide +kernel
theorem d11_6 : decode method_2_code 6 = .ok (.iload_n 1, 1) := by decide +kernel
theorem d11_7 : decode method_2_code 7 = .ok (.if_icmp .ne 5, 3) := by decide +kernel
theorem d11_10 : decode method_2_code 10 = .ok (.iconst 0, 1) := by decide +kernel
theorem d11_11 : decode method_2_code 11 = .ok (.ireturn, 1) := by decide +kernel
theorem d11_12 : decode method_2_code 12 = .ok (.iload 4, 2) := by decide +kernel
theorem d11_14 : decode method_2_code 14 = .ok (.iload_n 0, 1) := by decide +kernel
theorem d11_15 : decode method_2_code 15 = .ok (.if_icmp .ne 11, 3) := by decide +kernel
theorem d11_18 : decode method_2_code 18 = .ok (.iload 5, 2) := by decide +kernel
theorem d11_20 : decode method_2_code 20 = .ok (.iload_n 1, 1) := by decide +kernel
theorem d11_21 : decode method_2_code 21 = .ok (.if_icmp .ne 5, 3) := by decide +kernel
theorem d11_24 : decode method_2_code 24 = .ok (.iconst 0, 1) := by decide +kernel
theorem d11_25 : decode method_2_code 25 = .ok (.ireturn, 1) := by decide +kernel
theorem d11_26 : decode method_2_code 26 = .ok (.iconst 1, 1) := by decide +kernel
theorem d11_27 : decode method_2_code 27 = .ok (.ireturn, 1) := by decide +kernel
theorem ef_rm_un (m : MethodId) (x0 : Int32) (x1 : Int32) (x2 : Int32) (x3 : Int32) (x4 : Int32) (x5 : Int32) : entryFrame m #[(.int x0), (.int x1), (.int x2), (.int x3), (.int x4), (.int x5)] 6 = mkF m 0 #[.val (.int x0), .val (.int x1), .val (.int x2), .val (.int x3), .val (.int x4), .val (.int x5)] [] := by first | (simp [entryFrame, mkF, argsToLocals, Value.category]; done) | rfl
theorem pn_com_example_firstfail_firstfail_pairwise_PairsCountUncoveredPinLaw : plainName "com/example/firstfail/firstfail/pairwise/PairsCountUncoveredPinLaw" = true := by first | (simp [plainName, overriddenIn]; done) | decide +kernel
abbrev Q_rm_un (Z : State) (i1 : Int32) (i2 : Int32) (i3 : Int32) (i4 : Int32) (i5 : Int32) (i6 : Int32) (h0 : Heap) (n0 : Nat) : Option Value → Heap → List Loc → Prop := fun v h L => v = some (.int (own_un i1 i2 i3 i4 i5 i6)) ∧ Fr n0 L ∧ h = h0
set_option maxRecDepth 65536 in
set_option maxHeartbeats 40000000 in
theorem rm_un (l : Launch) (Z : State) (a0 : Array Value) (hw : ∀ d ∈ tables_1, d.before a0 Z = true) (i1 : Int32) (i2 : Int32) (i3 : Int32) (i4 : Int32) (i5 : Int32) (i6 : Int32) (h0 : Heap) (n0 : Nat) (Z0 : n0 ≤ h0.size)  :
    Con l Z (⟨"com/example/firstfail/firstfail/pairwise/PairsCountUncoveredPinLaw", "uncovered", "(IIIIII)Z"⟩ : MethodName) method_2_code 6 (some .boolean) ({ frames := 0, cells := 0, slots := 0, locals := 0 } : Room) #[(.int i1), (.int i2), (.int i3), (.int i4), (.int i5), (.int i6)] h0 (Q_rm_un Z i1 i2 i3 i4 i5 i6 h0 n0) := by
  refine meet (y := (⟨"com/example/firstfail/firstfail/pairwise/PairsCountUncoveredPinLaw", "uncovered", "(IIIIII)Z"⟩ : MethodName)) (Q := Q_rm_un Z i1 i2 i3 i4 i5 i6 h0 n0) (plainFor_of_name pn_com_example_firstfail_firstfail_pairwise_PairsCountUncoveredPinLaw) (fun m => ef_rm_un m i1 i2 i3 i4 i5 i6) ?_
  intro p e s m below meth c T0 hx hby hml hZ hown hnm hret hlk X0 e0
  have N0 := Fr.nil n0
  refine g_iloadN X0 hx hby d11_0 (pc' := 1) rfl rfl ?_
  refine g_iloadN X0 hx hby d11_1 (pc' := 2) rfl rfl ?_
  by_cases hc2 : i3.toInt = i1.toInt
  · refine g_icmpNo X0 hx hby d11_2 (pc' := 5) (teq (show i3 = i1 from Int32.toInt_inj.mp hc2)).2 rfl ?_
    refine g_iloadN X0 hx hby d11_5 (pc' := 6) rfl rfl ?_
    refine g_iloadN X0 hx hby d11_6 (pc' := 7) rfl rfl ?_
    by_cases hc7 : i4.toInt = i2.toInt
    · refine g_icmpNo X0 hx hby d11_7 (pc' := 10) (teq (show i4 = i2 from Int32.toInt_inj.mp hc7)).2 rfl ?_
      refine g_iconst X0 hx hby d11_10 (pc' := 11) rfl (z := (0 : Int32)) rfl ?_
      refine Go.retZ X0 hx hlk hret (by simp) (hb hby d11_11) (by decide) (by decide) ?_
      exact ⟨(by rw [own_un, if_pos (by omega)]; rfl), N0, e0⟩
    · refine g_icmpYes X0 hx hby d11_7 (pc' := 12) (feq (show ¬ (i4 = i2) from fun q => hc7 (congrArg Int32.toInt q))).2 (by decide) (by decide) ?_
      refine g_iload X0 hx hby d11_12 (pc' := 14) rfl rfl ?_
      refine g_iloadN X0 hx hby d11_14 (pc' := 15) rfl rfl ?_
      by_cases hc15 : i5.toInt = i1.toInt
      · refine g_icmpNo X0 hx hby d11_15 (pc' := 18) (teq (show i5 = i1 from Int32.toInt_inj.mp hc15)).2 rfl ?_
        refine g_iload X0 hx hby d11_18 (pc' := 20) rfl rfl ?_
        refine g_iloadN X0 hx hby d11_20 (pc' := 21) rfl rfl ?_
        by_cases hc21 : i6.toInt = i2.toInt
        · refine g_icmpNo X0 hx hby d11_21 (pc' := 24) (teq (show i6 = i2 from Int32.toInt_inj.mp hc21)).2 rfl ?_
          refine g_iconst X0 hx hby d11_24 (pc' := 25) rfl (z := (0 : Int32)) rfl ?_
          refine Go.retZ X0 hx hlk hret (by simp) (hb hby d11_25) (by decide) (by decide) ?_
          exact ⟨(by rw [own_un, if_pos (by omega)]; rfl), N0, e0⟩
        · refine g_icmpYes X0 hx hby d11_21 (pc' := 26) (feq (show ¬ (i6 = i2) from fun q => hc21 (congrArg Int32.toInt q))).2 (by decide) (by decide) ?_
          refine g_iconst X0 hx hby d11_26 (pc' := 27) rfl (z := (1 : Int32)) rfl ?_
          refine Go.retZ X0 hx hlk hret (by simp) (hb hby d11_27) (by decide) (by decide) ?_
          exact ⟨(by rw [own_un, if_neg (by omega)]; rfl), N0, e0⟩
      · refine g_icmpYes X0 hx hby d11_15 (pc' := 26) (feq (show ¬ (i5 = i1) from fun q => hc15 (congrArg Int32.toInt q))).2 (by decide) (by decide) ?_
        refine g_iconst X0 hx hby d11_26 (pc' := 27) rfl (z := (1 : Int32)) rfl ?_
        refine Go.retZ X0 hx hlk hret (by simp) (hb hby d11_27) (by decide) (by decide) ?_
        exact ⟨(by rw [own_un, if_neg (by omega)]; rfl), N0, e0⟩
  · refine g_icmpYes X0 hx hby d11_2 (pc' := 12) (feq (show ¬ (i3 = i1) from fun q => hc2 (congrArg Int32.toInt q))).2 (by decide) (by decide) ?_
    refine g_iload X0 hx hby d11_12 (pc' := 14) rfl rfl ?_
    refine g_iloadN X0 hx hby d11_14 (pc' := 15) rfl rfl ?_
    by_cases hc15 : i5.toInt = i1.toInt
    · refine g_icmpNo X0 hx hby d11_15 (pc' := 18) (teq (show i5 = i1 from Int32.toInt_inj.mp hc15)).2 rfl ?_
      refine g_iload X0 hx hby d11_18 (pc' := 20) rfl rfl ?_
      refine g_iloadN X0 hx hby d11_20 (pc' := 21) rfl rfl ?_
      by_cases hc21 : i6.toInt = i2.toInt
      · refine g_icmpNo X0 hx hby d11_21 (pc' := 24) (teq (show i6 = i2 from Int32.toInt_inj.mp hc21)).2 rfl ?_
        refine g_iconst X0 hx hby d11_24 (pc' := 25) rfl (z := (0 : Int32)) rfl ?_
        refine Go.retZ X0 hx hlk hret (by simp) (hb hby d11_25) (by decide) (by decide) ?_
        exact ⟨(by rw [own_un, if_pos (by omega)]; rfl), N0, e0⟩
      · refine g_icmpYes X0 hx hby d11_21 (pc' := 26) (feq (show ¬ (i6 = i2) from fun q => hc21 (congrArg Int32.toInt q))).2 (by decide) (by decide) ?_
        refine g_iconst X0 hx hby d11_26 (pc' := 27) rfl (z := (1 : Int32)) rfl ?_
        refine Go.retZ X0 hx hlk hret (by simp) (hb hby d11_27) (by decide) (by decide) ?_
        exact ⟨(by rw [own_un, if_neg (by omega)]; rfl), N0, e0⟩
    · refine g_icmpYes X0 hx hby d11_15 (pc' := 26) (feq (show ¬ (i5 = i1) from fun q => hc15 (congrArg Int32.toInt q))).2 (by decide) (by decide) ?_
      refine g_iconst X0 hx hby d11_26 (pc' := 27) rfl (z := (1 : Int32)) rfl ?_
      refine Go.retZ X0 hx hlk hret (by simp) (hb hby d11_27) (by decide) (by decide) ?_
      exact ⟨(by rw [own_un, if_neg (by omega)]; rfl), N0, e0⟩
theorem d1_0 : decode prog_31_method_1_code 0 = .ok (.aload_n 0, 1) := by decide +kernel
theorem d1_1 : decode prog_31_method_1_code 1 = .ok (.invokespecial 3, 3) := by decide +kernel
theorem d1_4 : decode prog_31_method_1_code 4 = .ok (.iconst 0, 1) := by decide +kernel
theorem d1_5 : decode prog_31_method_1_code 5 = .ok (.istore_n 2, 1) := by decide +kernel
theorem d1_6 : decode prog_31_method_1_code 6 = .ok (.aload_n 1, 1) := by decide +kernel
theorem d1_7 : decode prog_31_method_1_code 7 = .ok (.astore_n 3, 1) := by decide +kernel
theorem d1_8 : decode prog_31_method_1_code 8 = .ok (.aload_n 3, 1) := by decide +kernel
theorem d1_9 : decode prog_31_method_1_code 9 = .ok (.arraylength, 1) := by decide +kernel
theorem d1_10 : decode prog_31_method_1_code 10 = .ok (.istore 4, 2) := by decide +kernel
theorem d1_12 : decode prog_31_method_1_code 12 = .ok (.iconst 0, 1) := by decide +kernel
theorem d1_13 : decode prog_31_method_1_code 13 = .ok (.istore 5, 2) := by decide +kernel
theorem d1_15 : decode prog_31_method_1_code 15 = .ok (.iload 5, 2) := by decide +kernel
theorem d1_17 : decode prog_31_method_1_code 17 = .ok (.iload 4, 2) := by decide +kernel
theorem d1_19 : decode prog_31_method_1_code 19 = .ok (.if_icmp .ge 20, 3) := by decide +kernel
theorem d1_22 : decode prog_31_method_1_code 22 = .ok (.aload_n 3, 1) := by decide +kernel
theorem d1_23 : decode prog_31_method_1_code 23 = .ok (.iload 5, 2) := by decide +kernel
theorem d1_25 : decode prog_31_method_1_code 25 = .ok (.iaload, 1) := by decide +kernel
theorem d1_26 : decode prog_31_method_1_code 26 = .ok (.istore 6, 2) := by decide +kernel
theorem d1_28 : decode prog_31_method_1_code 28 = .ok (.iload_n 2, 1) := by decide +kernel
theorem d1_29 : decode prog_31_method_1_code 29 = .ok (.iload 6, 2) := by decide +kernel
theorem d1_31 : decode prog_31_method_1_code 31 = .ok (.iadd, 1) := by decide +kernel
theorem d1_32 : decode prog_31_method_1_code 32 = .ok (.istore_n 2, 1) := by decide +kernel
theorem d1_33 : decode prog_31_method_1_code 33 = .ok (.iinc 5 1, 3) := by decide +kernel
theorem d1_36 : decode prog_31_method_1_code 36 = .ok (.goto (-21), 3) := by decide +kernel
theorem d1_39 : decode prog_31_method_1_code 39 = .ok (.aload_n 0, 1) := by decide +kernel
theorem d1_40 : decode prog_31_method_1_code 40 = .ok (.iload_n 2, 1) := by decide +kernel
theorem d1_41 : decode prog_31_method_1_code 41 = .ok (.newarray .int, 2) := by decide +kernel
theorem d1_43 : decode prog_31_method_1_code 43 = .ok (.putfield 9, 3) := by decide +kernel
theorem d1_46 : decode prog_31_method_1_code 46 = .ok (.aload_n 0, 1) := by decide +kernel
theorem d1_47 : decode prog_31_method_1_code 47 = .ok (.iload_n 2, 1) := by decide +kernel
theorem d1_48 : decode prog_31_method_1_code 48 = .ok (.newarray .long, 2) := by decide +kernel
theorem d1_50 : decode prog_31_method_1_code 50 = .ok (.putfield 15, 3) := by decide +kernel
theorem sn0 {a0 : Array Value} {Z : State} (hw : ∀ d ∈ tables_1, d.before a0 Z = true) : Jvm.RoadKit.slotOf Z "com/example/firstfail/firstfail/pairwise/Pairs" "rowStart" "[J" ≠ Jvm.RoadKit.slotOf Z "com/example/firstfail/firstfail/pairwise/Pairs" "nextColumn" "[I" := slot_ne (Or.inr (wi hw 18 rfl)) (Or.inr (wi hw 15 rfl)) (by decide) (t := (.array .long)) (t' := (.array .int)) (by decide) (by decide)
theorem d1_53 : decode prog_31_method_1_code 53 = .ok (.lconst 0, 1) := by decide +kernel
theorem d1_54 : decode prog_31_method_1_code 54 = .ok (.lstore_n 3, 1) := by decide +kernel
theorem d1_55 : decode prog_31_method_1_code 55 = .ok (.iconst 0, 1) := by decide +kernel
theorem d1_56 : decode prog_31_method_1_code 56 = .ok (.istore 5, 2) := by decide +kernel
theorem d1_58 : decode prog_31_method_1_code 58 = .ok (.iconst 0, 1) := by decide +kernel
theorem d1_59 : decode prog_31_method_1_code 59 = .ok (.istore 6, 2) := by decide +kernel
theorem d1_61 : decode prog_31_method_1_code 61 = .ok (.aload_n 1, 1) := by decide +kernel
theorem d1_62 : decode prog_31_method_1_code 62 = .ok (.astore 7, 2) := by decide +kernel
theorem d1_64 : decode prog_31_method_1_code 64 = .ok (.aload 7, 2) := by decide +kernel
theorem d1_66 : decode prog_31_method_1_code 66 = .ok (.arraylength, 1) := by decide +kernel
theorem d1_67 : decode prog_31_method_1_code 67 = .ok (.istore 8, 2) := by decide +kernel
theorem d1_69 : decode prog_31_method_1_code 69 = .ok (.iconst 0, 1) := by decide +kernel
theorem d1_70 : decode prog_31_method_1_code 70 = .ok (.istore 9, 2) := by decide +kernel
theorem d1_72 : decode prog_31_method_1_code 72 = .ok (.iload 9, 2) := by decide +kernel
theorem d1_74 : decode prog_31_method_1_code 74 = .ok (.iload 8, 2) := by decide +kernel
theorem d1_76 : decode prog_31_method_1_code 76 = .ok (.if_icmp .ge 65, 3) := by decide +kernel
theorem d1_79 : decode prog_31_method_1_code 79 = .ok (.aload 7, 2) := by decide +kernel
theorem d1_81 : decode prog_31_method_1_code 81 = .ok (.iload 9, 2) := by decide +kernel
theorem d1_83 : decode prog_31_method_1_code 83 = .ok (.iaload, 1) := by decide +kernel
theorem d1_84 : decode prog_31_method_1_code 84 = .ok (.istore 10, 2) := by decide +kernel
theorem d1_86 : decode prog_31_method_1_code 86 = .ok (.iload 6, 2) := by decide +kernel
theorem d1_88 : decode prog_31_method_1_code 88 = .ok (.iload 10, 2) := by decide +kernel
theorem d1_90 : decode prog_31_method_1_code 90 = .ok (.iadd, 1) := by decide +kernel
theorem d1_91 : decode prog_31_method_1_code 91 = .ok (.istore 6, 2) := by decide +kernel
theorem sn1 {a0 : Array Value} {Z : State} (hw : ∀ d ∈ tables_1, d.before a0 Z = true) : Jvm.RoadKit.slotOf Z "com/example/firstfail/firstfail/pairwise/Pairs" "nextColumn" "[I" ≠ Jvm.RoadKit.slotOf Z "com/example/firstfail/firstfail/pairwise/Pairs" "rowStart" "[J" := slot_ne (Or.inr (wi hw 15 rfl)) (Or.inr (wi hw 18 rfl)) (by decide) (t := (.array .int)) (t' := (.array .long)) (by decide) (by decide)
theorem sn2 {a0 : Array Value} {Z : State} (hw : ∀ d ∈ tables_1, d.before a0 Z = true) : Jvm.RoadKit.slotOf Z "com/example/firstfail/firstfail/pairwise/Pairs" "covered" "[J" ≠ Jvm.RoadKit.slotOf Z "com/example/firstfail/firstfail/pairwise/Pairs" "nextColumn" "[I" := slot_ne (Or.inr (wi hw 22 rfl)) (Or.inr (wi hw 15 rfl)) (by decide) (t := (.array .long)) (t' := (.array .int)) (by decide) (by decide)
theorem sn3 {a0 : Array Value} {Z : State} (hw : ∀ d ∈ tables_1, d.before a0 Z = true) : Jvm.RoadKit.slotOf Z "com/example/firstfail/firstfail/pairwise/Pairs" "covered" "[J" ≠ Jvm.RoadKit.slotOf Z "com/example/firstfail/firstfail/pairwise/Pairs" "rowStart" "[J" := slot_ne (Or.inr (wi hw 22 rfl)) (Or.inr (wi hw 18 rfl)) (by decide) (t := (.array .long)) (t' := (.array .long)) (by decide) (by decide)
theorem sn4 {a0 : Array Value} {Z : State} (hw : ∀ d ∈ tables_1, d.before a0 Z = true) : Jvm.RoadKit.slotOf Z "com/example/firstfail/firstfail/pairwise/Pairs" "forbidden" "[J" ≠ Jvm.RoadKit.slotOf Z "com/example/firstfail/firstfail/pairwise/Pairs" "nextColumn" "[I" := slot_ne (Or.inr (wi hw 24 rfl)) (Or.inr (wi hw 15 rfl)) (by decide) (t := (.array .long)) (t' := (.array .int)) (by decide) (by decide)
theorem sn5 {a0 : Array Value} {Z : State} (hw : ∀ d ∈ tables_1, d.before a0 Z = true) : Jvm.RoadKit.slotOf Z "com/example/firstfail/firstfail/pairwise/Pairs" "forbidden" "[J" ≠ Jvm.RoadKit.slotOf Z "com/example/firstfail/firstfail/pairwise/Pairs" "rowStart" "[J" := slot_ne (Or.inr (wi hw 24 rfl)) (Or.inr (wi hw 18 rfl)) (by decide) (t := (.array .long)) (t' := (.array .long)) (by decide) (by decide)
theorem d1_93 : decode prog_31_method_1_code 93 = .ok (.iload 5, 2) := by decide +kernel
theorem d1_95 : decode prog_31_method_1_code 95 = .ok (.iload 6, 2) := by decide +kernel
theorem d1_97 : decode prog_31_method_1_code 97 = .ok (.if_icmp .ge 38, 3) := by decide +kernel
theorem d1_100 : decode prog_31_method_1_code 100 = .ok (.aload_n 0, 1) := by decide +kernel
theorem d1_101 : decode prog_31_method_1_code 101 = .ok (.getfield 9, 3) := by decide +kernel
theorem d1_104 : decode prog_31_method_1_code 104 = .ok (.iload 5, 2) := by decide +kernel
theorem d1_106 : decode prog_31_method_1_code 106 = .ok (.iload 6, 2) := by decide +kernel
theorem d1_108 : decode prog_31_method_1_code 108 = .ok (.iastore, 1) := by decide +kernel
theorem d1_109 : decode prog_31_method_1_code 109 = .ok (.aload_n 0, 1) := by decide +kernel
theorem d1_110 : decode prog_31_method_1_code 110 = .ok (.getfield 15, 3) := by decide +kernel
theorem d1_113 : decode prog_31_method_1_code 113 = .ok (.iload 5, 2) := by decide +kernel
theorem d1_115 : decode prog_31_method_1_code 115 = .ok (.lload_n 3, 1) := by decide +kernel
theorem d1_116 : decode prog_31_method_1_code 116 = .ok (.lastore, 1) := by decide +kernel
theorem d1_117 : decode prog_31_method_1_code 117 = .ok (.lload_n 3, 1) := by decide +kernel
theorem d1_118 : decode prog_31_method_1_code 118 = .ok (.aload_n 0, 1) := by decide +kernel
theorem d1_119 : decode prog_31_method_1_code 119 = .ok (.getfield 9, 3) := by decide +kernel
theorem d1_122 : decode prog_31_method_1_code 122 = .ok (.arraylength, 1) := by decide +kernel
theorem d1_123 : decode prog_31_method_1_code 123 = .ok (.iload 6, 2) := by decide +kernel
theorem d1_125 : decode prog_31_method_1_code 125 = .ok (.isub, 1) := by decide +kernel
theorem d1_126 : decode prog_31_method_1_code 126 = .ok (.i2l, 1) := by decide +kernel
theorem d1_127 : decode prog_31_method_1_code 127 = .ok (.ladd, 1) := by decide +kernel
theorem d1_128 : decode prog_31_method_1_code 128 = .ok (.lstore_n 3, 1) := by decide +kernel
theorem d1_129 : decode prog_31_method_1_code 129 = .ok (.iinc 5 1, 3) := by decide +kernel
theorem d1_132 : decode prog_31_method_1_code 132 = .ok (.goto (-39), 3) := by decide +kernel
theorem d1_135 : decode prog_31_method_1_code 135 = .ok (.iinc 9 1, 3) := by decide +kernel
theorem d1_138 : decode prog_31_method_1_code 138 = .ok (.goto (-66), 3) := by decide +kernel
theorem d1_141 : decode prog_31_method_1_code 141 = .ok (.lload_n 3, 1) := by decide +kernel
theorem d1_142 : decode prog_31_method_1_code 142 = .ok (.ldc2_w 19, 3) := by decide +kernel
theorem d1_145 : decode prog_31_method_1_code 145 = .ok (.ladd, 1) := by decide +kernel
theorem d1_146 : decode prog_31_method_1_code 146 = .ok (.lconst 1, 1) := by decide +kernel
theorem d1_147 : decode prog_31_method_1_code 147 = .ok (.lsub, 1) := by decide +kernel
theorem d1_148 : decode prog_31_method_1_code 148 = .ok (.ldc2_w 19, 3) := by decide +kernel
theorem d1_151 : decode prog_31_method_1_code 151 = .ok (.ldiv, 1) := by decide +kernel
theorem d1_152 : decode prog_31_method_1_code 152 = .ok (.lstore 7, 2) := by decide +kernel
theorem d1_154 : decode prog_31_method_1_code 154 = .ok (.lload 7, 2) := by decide +kernel
theorem d1_156 : decode prog_31_method_1_code 156 = .ok (.ldc2_w 23, 3) := by decide +kernel
theorem d1_159 : decode prog_31_method_1_code 159 = .ok (.lcmp, 1) := by decide +kernel
theorem d1_160 : decode prog_31_method_1_code 160 = .ok (.ifCond .le 17, 3) := by decide +kernel
theorem d1_177 : decode prog_31_method_1_code 177 = .ok (.aload_n 0, 1) := by decide +kernel
theorem d1_178 : decode prog_31_method_1_code 178 = .ok (.lload 7, 2) := by decide +kernel
theorem d1_180 : decode prog_31_method_1_code 180 = .ok (.l2i, 1) := by decide +kernel
theorem d1_181 : decode prog_31_method_1_code 181 = .ok (.newarray .long, 2) := by decide +kernel
theorem d1_183 : decode prog_31_method_1_code 183 = .ok (.putfield 34, 3) := by decide +kernel
theorem d1_186 : decode prog_31_method_1_code 186 = .ok (.aload_n 0, 1) := by decide +kernel
theorem d1_187 : decode prog_31_method_1_code 187 = .ok (.lload 7, 2) := by decide +kernel
theorem d1_189 : decode prog_31_method_1_code 189 = .ok (.l2i, 1) := by decide +kernel
theorem d1_190 : decode prog_31_method_1_code 190 = .ok (.newarray .long, 2) := by decide +kernel
theorem d1_192 : decode prog_31_method_1_code 192 = .ok (.putfield 37, 3) := by decide +kernel
theorem sn6 {a0 : Array Value} {Z : State} (hw : ∀ d ∈ tables_1, d.before a0 Z = true) : Jvm.RoadKit.slotOf Z "com/example/firstfail/firstfail/pairwise/Pairs" "forbidden" "[J" ≠ Jvm.RoadKit.slotOf Z "com/example/firstfail/firstfail/pairwise/Pairs" "covered" "[J" := slot_ne (Or.inr (wi hw 24 rfl)) (Or.inr (wi hw 22 rfl)) (by decide) (t := (.array .long)) (t' := (.array .long)) (by decide) (by decide)
theorem d1_195 : decode prog_31_method_1_code 195 = .ok (.return_, 1) := by decide +kernel
theorem sn7 {a0 : Array Value} {Z : State} (hw : ∀ d ∈ tables_1, d.before a0 Z = true) : Jvm.RoadKit.slotOf Z "com/example/firstfail/firstfail/pairwise/Pairs" "covered" "[J" ≠ Jvm.RoadKit.slotOf Z "com/example/firstfail/firstfail/pairwise/Pairs" "forbidden" "[J" := slot_ne (Or.inr (wi hw 22 rfl)) (Or.inr (wi hw 24 rfl)) (by decide) (t := (.array .long)) (t' := (.array .long)) (by decide) (by decide)
theorem sn8 {a0 : Array Value} {Z : State} (hw : ∀ d ∈ tables_1, d.before a0 Z = true) : Jvm.RoadKit.slotOf Z "com/example/firstfail/firstfail/pairwise/Pairs" "nextColumn" "[I" ≠ Jvm.RoadKit.slotOf Z "com/example/firstfail/firstfail/pairwise/Pairs" "covered" "[J" := slot_ne (Or.inr (wi hw 15 rfl)) (Or.inr (wi hw 22 rfl)) (by decide) (t := (.array .int)) (t' := (.array .long)) (by decide) (by decide)
theorem sn9 {a0 : Array Value} {Z : State} (hw : ∀ d ∈ tables_1, d.before a0 Z = true) : Jvm.RoadKit.slotOf Z "com/example/firstfail/firstfail/pairwise/Pairs" "nextColumn" "[I" ≠ Jvm.RoadKit.slotOf Z "com/example/firstfail/firstfail/pairwise/Pairs" "forbidden" "[J" := slot_ne (Or.inr (wi hw 15 rfl)) (Or.inr (wi hw 24 rfl)) (by decide) (t := (.array .int)) (t' := (.array .long)) (by decide) (by decide)
theorem sn10 {a0 : Array Value} {Z : State} (hw : ∀ d ∈ tables_1, d.before a0 Z = true) : Jvm.RoadKit.slotOf Z "com/example/firstfail/firstfail/pairwise/Pairs" "rowStart" "[J" ≠ Jvm.RoadKit.slotOf Z "com/example/firstfail/firstfail/pairwise/Pairs" "covered" "[J" := slot_ne (Or.inr (wi hw 18 rfl)) (Or.inr (wi hw 22 rfl)) (by decide) (t := (.array .long)) (t' := (.array .long)) (by decide) (by decide)
theorem sn11 {a0 : Array Value} {Z : State} (hw : ∀ d ∈ tables_1, d.before a0 Z = true) : Jvm.RoadKit.slotOf Z "com/example/firstfail/firstfail/pairwise/Pairs" "rowStart" "[J" ≠ Jvm.RoadKit.slotOf Z "com/example/firstfail/firstfail/pairwise/Pairs" "forbidden" "[J" := slot_ne (Or.inr (wi hw 18 rfl)) (Or.inr (wi hw 24 rfl)) (by decide) (t := (.array .long)) (t' := (.array .long)) (by decide) (by decide)
theorem ef_rm_ctor (m : MethodId) (x0 : Addr) (x1 : Addr) : entryFrame m #[(.ref x0), (.ref x1)] 11 = mkF m 0 #[.val (.ref x0), .val (.ref x1), .unset, .unset, .unset, .unset, .unset, .unset, .unset, .unset, .unset] [] := by first | (simp [entryFrame, mkF, argsToLocals, Value.category]; done) | rfl
abbrev Q_rm_ctor (Z : State) (a1 : Addr) (x1 : Addr) (gw : Nat → Int32) (w0n : Nat) (w1n : Nat) (h0 : Heap) (n0 : Nat) : Option Value → Heap → List Loc → Prop := fun v h L => ∃ (b1 : Addr) (b2 : Addr) (b3 : Addr) (gNx : Nat → Int32) (gRx : Nat → Int64), v = none ∧ Fr n0 L ∧ Keep h0 h [a1] ∧ n0 ≤ b1 ∧ h0.size ≤ b1 ∧ n0 ≤ b2 ∧ h0.size ≤ b2 ∧ n0 ≤ b3 ∧ h0.size ≤ b3 ∧ b1 ≠ b2 ∧ b1 ≠ b3 ∧ b2 ≠ b3 ∧ Fld Z h a1 "com/example/firstfail/firstfail/pairwise/Pairs" "nextColumn" "[I" (.ref b1) ∧ Fld Z h a1 "com/example/firstfail/firstfail/pairwise/Pairs" "rowStart" "[J" (.ref b2) ∧ Fld Z h a1 "com/example/firstfail/firstfail/pairwise/Pairs" "covered" "[J" (.ref b3) ∧ ArF Z h b1 .int (w0n + w1n) (fun i => .int (gNx i)) ∧ ArF Z h b2 .long (w0n + w1n) (fun i => .long (gRx i)) ∧ ArF Z h b3 .long ((w0n * w1n + 63) / 64) (fun i => .long ((fun _ => (0 : Int64)) i)) ∧ (∀ i, i < w0n → (gNx i).toInt = (w0n : Int)) ∧ (∀ i, i < w0n → (gRx i).toInt = ((i * w1n : Nat) : Int))
set_option maxRecDepth 65536 in
set_option maxHeartbeats 40000000 in
theorem rm_ctor (l : Launch) (Z : State) (a0 : Array Value) (hw : ∀ d ∈ tables_1, d.before a0 Z = true) (a1 : Addr) (x1 : Addr) (gw : Nat → Int32) (w0n : Nat) (w1n : Nat) (h0 : Heap) (n0 : Nat) (Z0 : n0 ≤ h0.size) (P0 : Exa Z h0 a1 "com/example/firstfail/firstfail/pairwise/Pairs") (P1 : Fld Z h0 a1 "com/example/firstfail/firstfail/pairwise/Pairs" "nextColumn" "[I" .null) (P2 : Fld Z h0 a1 "com/example/firstfail/firstfail/pairwise/Pairs" "rowStart" "[J" .null) (P3 : Fld Z h0 a1 "com/example/firstfail/firstfail/pairwise/Pairs" "covered" "[J" .null) (P4 : Fld Z h0 a1 "com/example/firstfail/firstfail/pairwise/Pairs" "forbidden" "[J" .null) (P5 : ArF Z h0 x1 .int 2 (fun i => .int (gw i))) (ne_x1_a1 : x1 ≠ a1) (ge_a1 : n0 ≤ a1) (hw0 : (gw 0).toInt = (w0n : Int)) (hw1 : (gw 1).toInt = (w1n : Int)) (hr0 : 1 ≤ w0n ∧ w0n ≤ 4) (hr1 : 130 ≤ w1n ∧ w1n ≤ 193) :
    Con l Z (⟨"com/example/firstfail/firstfail/pairwise/Pairs", "<init>", "([I)V"⟩ : MethodName) prog_31_method_1_code 11 none ({ frames := 1, cells := 4, slots := 420, locals := 12 } : Room) #[(.ref a1), (.ref x1)] h0 (Q_rm_ctor Z a1 x1 gw w0n w1n h0 n0) := by
  refine meet (y := (⟨"com/example/firstfail/firstfail/pairwise/Pairs", "<init>", "([I)V"⟩ : MethodName)) (Q := Q_rm_ctor Z a1 x1 gw w0n w1n h0 n0) (plainFor_of_name pn_com_example_firstfail_firstfail_pairwise_Pairs) (fun m => ef_rm_ctor m a1 x1) ?_
  intro p e s m below meth c T0 hx hby hml hZ hown hnm hret hlk X0 e0
  have N0 := Fr.nil n0
  have K0 := Keep.refl h0 [a1]
  refine g_aloadN X0 hx hby d1_0 (pc' := 1) rfl rfl rfl ?_
  refine g_init X0 hx hby hZ hown (wi hw 11 rfl) (wi hw 12 rfl) (wi hw 13 rfl) e0 (by rw [hml]; rfl) d1_1 (pc' := 4) rfl (by decide) (W := 0) rfl (by decide) ?_
  intro T1 X1 e1
  refine g_iconst X1 hx hby d1_4 (pc' := 5) rfl (z := (0 : Int32)) rfl ?_
  refine g_istoreN X1 hx hby d1_5 (pc' := 6) rfl (L' := #[.val (.ref a1), .val (.ref x1), .val (.int (0 : Int32)), .unset, .unset, .unset, .unset, .unset, .unset, .unset, .unset]) rfl ?_
  refine g_aloadN X1 hx hby d1_6 (pc' := 7) rfl rfl rfl ?_
  refine g_astoreN X1 hx hby d1_7 (pc' := 8) rfl rfl (L' := #[.val (.ref a1), .val (.ref x1), .val (.int (0 : Int32)), .val (.ref x1), .unset, .unset, .unset, .unset, .unset, .unset, .unset]) rfl ?_
  refine g_aloadN X1 hx hby d1_8 (pc' := 9) rfl rfl rfl ?_
  refine Go.alen X1 hx hZ e1 P5 (z := (2 : Int32)) rfl (hb hby d1_9) (pc' := 10) rfl ?_
  refine g_istore X1 hx hby d1_10 (pc' := 12) rfl (L' := #[.val (.ref a1), .val (.ref x1), .val (.int (0 : Int32)), .val (.ref x1), .val (.int (2 : Int32)), .unset, .unset, .unset, .unset, .unset, .unset]) rfl ?_
  refine g_iconst X1 hx hby d1_12 (pc' := 13) rfl (z := (0 : Int32)) rfl ?_
  refine g_istore X1 hx hby d1_13 (pc' := 15) rfl (L' := #[.val (.ref a1), .val (.ref x1), .val (.int (0 : Int32)), .val (.ref x1), .val (.int (2 : Int32)), .val (.int (0 : Int32)), .unset, .unset, .unset, .unset, .unset]) rfl ?_
  refine g_iload X1 hx hby d1_15 (pc' := 17) rfl rfl ?_
  refine g_iload X1 hx hby d1_17 (pc' := 19) rfl rfl ?_
  have hc19 : (0 : Int) < (2 : Int) := by decide
  refine g_icmpNo X1 hx hby d1_19 (pc' := 22) (tlt (show (0 : Int32) < (2 : Int32) from Int32.lt_iff_toInt_lt.mpr hc19)).2.1 rfl ?_
  refine g_aloadN X1 hx hby d1_22 (pc' := 23) rfl rfl rfl ?_
  refine g_iload X1 hx hby d1_23 (pc' := 25) rfl rfl ?_
  refine Go.iaload X1 hx hZ e1 P5 (k := 0) rfl (by decide) rfl (hb hby d1_25) (pc' := 26) rfl ?_
  generalize hv2 : (gw 0) = v2
  refine g_istore X1 hx hby d1_26 (pc' := 28) rfl (L' := #[.val (.ref a1), .val (.ref x1), .val (.int (0 : Int32)), .val (.ref x1), .val (.int (2 : Int32)), .val (.int (0 : Int32)), .val (.int v2), .unset, .unset, .unset, .unset]) rfl ?_
  refine g_iloadN X1 hx hby d1_28 (pc' := 29) rfl rfl ?_
  refine g_iload X1 hx hby d1_29 (pc' := 31) rfl rfl ?_
  refine g_iadd X1 hx hby d1_31 (pc' := 32) rfl rfl ?_
  generalize hv3 : ((0 : Int32) + v2) = v3
  refine g_istoreN X1 hx hby d1_32 (pc' := 33) rfl (L' := #[.val (.ref a1), .val (.ref x1), .val (.int v3), .val (.ref x1), .val (.int (2 : Int32)), .val (.int (0 : Int32)), .val (.int v2), .unset, .unset, .unset, .unset]) rfl ?_
  refine g_iinc X1 hx hby d1_33 (pc' := 36) rfl rfl (L' := #[.val (.ref a1), .val (.ref x1), .val (.int v3), .val (.ref x1), .val (.int (2 : Int32)), .val (.int (1 : Int32)), .val (.int v2), .unset, .unset, .unset, .unset]) rfl ?_
  refine g_goto X1 hx hby d1_36 (pc' := 15) (by decide) (by decide) ?_
  refine g_iload X1 hx hby d1_15 (pc' := 17) rfl rfl ?_
  refine g_iload X1 hx hby d1_17 (pc' := 19) rfl rfl ?_
  have hc19 : (1 : Int) < (2 : Int) := by decide
  refine g_icmpNo X1 hx hby d1_19 (pc' := 22) (tlt (show (1 : Int32) < (2 : Int32) from Int32.lt_iff_toInt_lt.mpr hc19)).2.1 rfl ?_
  refine g_aloadN X1 hx hby d1_22 (pc' := 23) rfl rfl rfl ?_
  refine g_iload X1 hx hby d1_23 (pc' := 25) rfl rfl ?_
  refine Go.iaload X1 hx hZ e1 P5 (k := 1) rfl (by decide) rfl (hb hby d1_25) (pc' := 26) rfl ?_
  generalize hv4 : (gw 1) = v4
  refine g_istore X1 hx hby d1_26 (pc' := 28) rfl (L' := #[.val (.ref a1), .val (.ref x1), .val (.int v3), .val (.ref x1), .val (.int (2 : Int32)), .val (.int (1 : Int32)), .val (.int v4), .unset, .unset, .unset, .unset]) rfl ?_
  refine g_iloadN X1 hx hby d1_28 (pc' := 29) rfl rfl ?_
  refine g_iload X1 hx hby d1_29 (pc' := 31) rfl rfl ?_
  refine g_iadd X1 hx hby d1_31 (pc' := 32) rfl rfl ?_
  generalize hv5 : (v3 + v4) = v5
  refine g_istoreN X1 hx hby d1_32 (pc' := 33) rfl (L' := #[.val (.ref a1), .val (.ref x1), .val (.int v5), .val (.ref x1), .val (.int (2 : Int32)), .val (.int (1 : Int32)), .val (.int v4), .unset, .unset, .unset, .unset]) rfl ?_
  refine g_iinc X1 hx hby d1_33 (pc' := 36) rfl rfl (L' := #[.val (.ref a1), .val (.ref x1), .val (.int v5), .val (.ref x1), .val (.int (2 : Int32)), .val (.int (2 : Int32)), .val (.int v4), .unset, .unset, .unset, .unset]) rfl ?_
  refine g_goto X1 hx hby d1_36 (pc' := 15) (by decide) (by decide) ?_
  refine g_iload X1 hx hby d1_15 (pc' := 17) rfl rfl ?_
  refine g_iload X1 hx hby d1_17 (pc' := 19) rfl rfl ?_
  have hc19 : ¬ ((2 : Int) < (2 : Int)) := by decide
  refine g_icmpYes X1 hx hby d1_19 (pc' := 39) (flt (show ¬ ((2 : Int32) < (2 : Int32)) from fun q => hc19 (Int32.lt_iff_toInt_lt.mp q))).2.1 (by decide) (by decide) ?_
  have hV : v5.toInt = ((w0n + w1n : Nat) : Int) := by rw [← hv5, ← hv3, ← hv2, ← hv4]; have : ((((0 : Int32) + (gw 0)) + (gw 1)).toInt - (((0 : Int32) + (gw 0)).toInt + (gw 1).toInt)) % 4294967296 = 0 := c_iadd _ _; have : -2147483648 ≤ (((0 : Int32) + (gw 0)) + (gw 1)).toInt ∧ (((0 : Int32) + (gw 0)) + (gw 1)).toInt < 2147483648 := rng32 _; have : (((0 : Int32) + (gw 0)).toInt - ((0) + (gw 0).toInt)) % 4294967296 = 0 := c_iadd _ _; have : -2147483648 ≤ ((0 : Int32) + (gw 0)).toInt ∧ ((0 : Int32) + (gw 0)).toInt < 2147483648 := rng32 _; have : -2147483648 ≤ (gw 0).toInt ∧ (gw 0).toInt < 2147483648 := rng32 _; have : -2147483648 ≤ (gw 1).toInt ∧ (gw 1).toInt < 2147483648 := rng32 _; omega
  refine g_aloadN X1 hx hby d1_39 (pc' := 40) rfl rfl rfl ?_
  refine g_iloadN X1 hx hby d1_40 (pc' := 41) rfl rfl ?_
  refine Go.newarr X1 hx hZ (n := (w0n + w1n)) (cap := 197) (ty := .int) rfl (wi hw 4 rfl) e1 (by rw [Int32.lt_iff_toInt_lt]; show ¬ v5.toInt < 0; omega) (nat_idx hV) (by omega) (by decide) (by decide) (by decide) (hb hby d1_41) (pc' := 43) rfl ?_
  intro T6 h6 b6 X6 e6 E6 hb6 V6
  have g7 : n0 ≤ b6 := by rw [hb6]; exact Z0
  have s8 : h0.size ≤ b6 := by rw [hb6]; exact K0.1
  have V9 : ArF Z h6 b6 .int (w0n + w1n) (fun i => .int ((fun _ => (0 : Int32)) i)) := V6
  have f10 := P1.ext E6
  have f11 := P0.ext E6
  refine g_putf X6 hx hby hZ hown (host := "") (Or.inl (wi hw 14 rfl)) Via.refl e6 f10 f11 (Or.inr ⟨(wi hw 15 rfl), rfl, hnm⟩) (wi hw 6 rfl) (ty := (.array .int)) (by decide) rfl rfl d1_43 (pc' := 46) rfl ?_
  intro T12 h12 X12 e12 W12 F12
  refine g_aloadN X12 hx hby d1_46 (pc' := 47) rfl rfl rfl ?_
  refine g_iloadN X12 hx hby d1_47 (pc' := 48) rfl rfl ?_
  refine Go.newarr X12 hx hZ (n := (w0n + w1n)) (cap := 197) (ty := .long) rfl (wi hw 16 rfl) e12 (by rw [Int32.lt_iff_toInt_lt]; show ¬ v5.toInt < 0; omega) (nat_idx hV) (by omega) (by decide) (by decide) (by decide) (hb hby d1_48) (pc' := 50) rfl ?_
  intro T13 h13 b13 X13 e13 E13 hb13 V13
  have g14 : n0 ≤ b13 := by rw [hb13]; exact (Nat.le_trans (Nat.le_trans Z0 E6.1) (Nat.le_of_eq (Wr.size W12).symm))
  have s15 : h0.size ≤ b13 := by rw [hb13]; exact ((K0.ext E6).wr W12 (Or.inl (List.mem_of_getElem? (i := 0) rfl))).1
  have V16 : ArF Z h13 b13 .long (w0n + w1n) (fun i => .long ((fun _ => (0 : Int64)) i)) := V13
  have f17 := (((P2.ext E6).other W12 (Or.inr (sn0 hw))).ext E13)
  have f18 := ((f11.wr W12).ext E13)
  refine g_putf X13 hx hby hZ hown (host := "") (Or.inl (wi hw 17 rfl)) Via.refl e13 f17 f18 (Or.inr ⟨(wi hw 18 rfl), rfl, hnm⟩) (wi hw 6 rfl) (ty := (.array .long)) (by decide) rfl rfl d1_50 (pc' := 53) rfl ?_
  intro T19 h19 X19 e19 W19 F19
  refine Go.of (fun _ k => XS.lconst X19.here hx rfl (hb hby d1_53) k) ?_
  show Go p.tables e below s _ _ _ (T19.setTop (mkF m 54 #[.val (.ref a1), .val (.ref x1), .val (.int v5), .val (.ref x1), .val (.int (2 : Int32)), .val (.int (2 : Int32)), .val (.int v4), .unset, .unset, .unset, .unset] [(.long (0 : Int64))]))
  refine g_lstoreN X19 hx hby d1_54 (pc' := 55) rfl (L' := #[.val (.ref a1), .val (.ref x1), .val (.int v5), .val (.long (0 : Int64)), .second, .val (.int (2 : Int32)), .val (.int v4), .unset, .unset, .unset, .unset]) rfl ?_
  refine g_iconst X19 hx hby d1_55 (pc' := 56) rfl (z := (0 : Int32)) rfl ?_
  refine g_istore X19 hx hby d1_56 (pc' := 58) rfl (L' := #[.val (.ref a1), .val (.ref x1), .val (.int v5), .val (.long (0 : Int64)), .second, .val (.int (0 : Int32)), .val (.int v4), .unset, .unset, .unset, .unset]) rfl ?_
  refine g_iconst X19 hx hby d1_58 (pc' := 59) rfl (z := (0 : Int32)) rfl ?_
  refine g_istore X19 hx hby d1_59 (pc' := 61) rfl (L' := #[.val (.ref a1), .val (.ref x1), .val (.int v5), .val (.long (0 : Int64)), .second, .val (.int (0 : Int32)), .val (.int (0 : Int32)), .unset, .unset, .unset, .unset]) rfl ?_
  refine g_aloadN X19 hx hby d1_61 (pc' := 62) rfl rfl rfl ?_
  refine g_astore X19 hx hby d1_62 (pc' := 64) rfl rfl (L' := #[.val (.ref a1), .val (.ref x1), .val (.int v5), .val (.long (0 : Int64)), .second, .val (.int (0 : Int32)), .val (.int (0 : Int32)), .val (.ref x1), .unset, .unset, .unset]) rfl ?_
  refine g_aload X19 hx hby d1_64 (pc' := 66) rfl rfl rfl ?_
  have f20 := ((((P5.ext E6).other W12 ne_x1_a1).ext E13).other W19 ne_x1_a1)
  refine Go.alen X19 hx hZ e19 f20 (z := (2 : Int32)) rfl (hb hby d1_66) (pc' := 67) rfl ?_
  refine g_istore X19 hx hby d1_67 (pc' := 69) rfl (L' := #[.val (.ref a1), .val (.ref x1), .val (.int v5), .val (.long (0 : Int64)), .second, .val (.int (0 : Int32)), .val (.int (0 : Int32)), .val (.ref x1), .val (.int (2 : Int32)), .unset, .unset]) rfl ?_
  refine g_iconst X19 hx hby d1_69 (pc' := 70) rfl (z := (0 : Int32)) rfl ?_
  refine g_istore X19 hx hby d1_70 (pc' := 72) rfl (L' := #[.val (.ref a1), .val (.ref x1), .val (.int v5), .val (.long (0 : Int64)), .second, .val (.int (0 : Int32)), .val (.int (0 : Int32)), .val (.ref x1), .val (.int (2 : Int32)), .val (.int (0 : Int32)), .unset]) rfl ?_
  refine g_iload X19 hx hby d1_72 (pc' := 74) rfl rfl ?_
  refine g_iload X19 hx hby d1_74 (pc' := 76) rfl rfl ?_
  have hc76 : (0 : Int) < (2 : Int) := by decide
  refine g_icmpNo X19 hx hby d1_76 (pc' := 79) (tlt (show (0 : Int32) < (2 : Int32) from Int32.lt_iff_toInt_lt.mpr hc76)).2.1 rfl ?_
  refine g_aload X19 hx hby d1_79 (pc' := 81) rfl rfl rfl ?_
  refine g_iload X19 hx hby d1_81 (pc' := 83) rfl rfl ?_
  refine Go.iaload X19 hx hZ e19 f20 (k := 0) rfl (by decide) rfl (hb hby d1_83) (pc' := 84) rfl ?_
  generalize hv21 : (gw 0) = v21
  refine g_istore X19 hx hby d1_84 (pc' := 86) rfl (L' := #[.val (.ref a1), .val (.ref x1), .val (.int v5), .val (.long (0 : Int64)), .second, .val (.int (0 : Int32)), .val (.int (0 : Int32)), .val (.ref x1), .val (.int (2 : Int32)), .val (.int (0 : Int32)), .val (.int v21)]) rfl ?_
  refine g_iload X19 hx hby d1_86 (pc' := 88) rfl rfl ?_
  refine g_iload X19 hx hby d1_88 (pc' := 90) rfl rfl ?_
  refine g_iadd X19 hx hby d1_90 (pc' := 91) rfl rfl ?_
  generalize hv22 : ((0 : Int32) + v21) = v22
  refine g_istore X19 hx hby d1_91 (pc' := 93) rfl (L' := #[.val (.ref a1), .val (.ref x1), .val (.int v5), .val (.long (0 : Int64)), .second, .val (.int (0 : Int32)), .val (.int v22), .val (.ref x1), .val (.int (2 : Int32)), .val (.int (0 : Int32)), .val (.int v21)]) rfl ?_
  have f23 := ((F12.ext E13).other W19 (Or.inr (sn1 hw)))
  have ne24 : a1 ≠ b6 := Nat.ne_of_lt (by rw [hb6]; exact P4.lt)
  have f25 := (((V9.other W12 (Ne.symm ne24)).ext E13).other W19 (Ne.symm ne24))
  have ne26 : a1 ≠ b13 := Nat.ne_of_lt (by rw [hb13]; exact F12.lt)
  have f27 := (V16.other W19 (Ne.symm ne26))
  have hnx : v22.toInt = (w0n : Int) := by rw [← hv22, ← hv21]; have : (((0 : Int32) + (gw 0)).toInt - ((0) + (gw 0).toInt)) % 4294967296 = 0 := c_iadd _ _; have : -2147483648 ≤ ((0 : Int32) + (gw 0)).toInt ∧ ((0 : Int32) + (gw 0)).toInt < 2147483648 := rng32 _; have : -2147483648 ≤ (gw 0).toInt ∧ (gw 0).toInt < 2147483648 := rng32 _; omega
  have hmul : w0n * w1n ≤ 4 * 193 := Nat.mul_le_mul (by omega) (by omega)
  have ne28 : b6 ≠ b13 := Nat.ne_of_lt (by rw [hb13]; exact (V9.other W12 (Ne.symm ne24)).lt)
  have ne29 : x1 ≠ b6 := Nat.ne_of_lt (by rw [hb6]; exact P5.lt)
  have ne30 : x1 ≠ b13 := Nat.ne_of_lt (by rw [hb13]; exact ((P5.ext E6).other W12 ne_x1_a1).lt)
  have f31 := f18.wr W19
  have f32 := ((((P3.ext E6).other W12 (Or.inr (sn2 hw))).ext E13).other W19 (Or.inr (sn3 hw)))
  have f33 := ((((P4.ext E6).other W12 (Or.inr (sn4 hw))).ext E13).other W19 (Or.inr (sn5 hw)))
  refine Go.loop (α := State × (List Loc) × Heap × Int32 × Int64 × (Nat → Int32) × (Nat → Int64) × Nat) (P := fun kq x => (fun (Tj93r0 : State) (Lj93r0 : List Loc) (hj93r0 : Heap) (iv : Int32) (qv : Int64) (gN : Nat → Int32) (gR : Nat → Int64) (kv : Nat) => Stand p l e ({ frames := 1, cells := 4, slots := 420, locals := 12 } : Room) s m #[(.ref a1), (.ref x1)] below meth c Tj93r0 Lj93r0 2 394 ∧ Tj93r0.heap = hj93r0 ∧ Fr n0 Lj93r0 ∧ n0 ≤ hj93r0.size ∧ Keep h0 hj93r0 [a1] ∧ Exa Z hj93r0 a1 "com/example/firstfail/firstfail/pairwise/Pairs" ∧ Fld Z hj93r0 a1 "com/example/firstfail/firstfail/pairwise/Pairs" "nextColumn" "[I" (.ref b6) ∧ Fld Z hj93r0 a1 "com/example/firstfail/firstfail/pairwise/Pairs" "rowStart" "[J" (.ref b13) ∧ Fld Z hj93r0 a1 "com/example/firstfail/firstfail/pairwise/Pairs" "covered" "[J" .null ∧ Fld Z hj93r0 a1 "com/example/firstfail/firstfail/pairwise/Pairs" "forbidden" "[J" .null ∧ ArF Z hj93r0 b6 .int (w0n + w1n) (fun i => .int (gN i)) ∧ ArF Z hj93r0 b13 .long (w0n + w1n) (fun i => .long (gR i)) ∧ ArF Z hj93r0 x1 .int 2 (fun i => .int (gw i)) ∧ (iv.toInt = (kv : Int) ∧ kv ≤ w0n ∧ kq = w0n - kv ∧ qv.toInt = ((kv * w1n : Nat) : Int) ∧ (∀ i, i < kv → (gN i).toInt = (w0n : Int)) ∧ (∀ i, i < kv → (gR i).toInt = ((i * w1n : Nat) : Int)))) x.1 x.2.1 x.2.2.1 x.2.2.2.1 x.2.2.2.2.1 x.2.2.2.2.2.1 x.2.2.2.2.2.2.1 x.2.2.2.2.2.2.2) (F := fun x => (fun (Tj93r0 : State) (Lj93r0 : List Loc) (hj93r0 : Heap) (iv : Int32) (qv : Int64) (gN : Nat → Int32) (gR : Nat → Int64) (kv : Nat) => Tj93r0.setTop (mkF m 93 #[.val (.ref a1), .val (.ref x1), .val (.int v5), .val (.long qv), .second, .val (.int iv), .val (.int v22), .val (.ref x1), .val (.int (2 : Int32)), .val (.int (0 : Int32)), .val (.int v21)] [])) x.1 x.2.1 x.2.2.1 x.2.2.2.1 x.2.2.2.2.1 x.2.2.2.2.2.1 x.2.2.2.2.2.2.1 x.2.2.2.2.2.2.2) ?_ (w0n) (T19, _, h19, (0 : Int32), (0 : Int64), (fun _ => (0 : Int32)), (fun _ => (0 : Int64)), 0) ⟨X19.more (by decide) (by decide), e19, (Fr.snoc X19 (Fr.snoc X12 N0 ge_a1) ge_a1), (Nat.le_trans (Nat.le_trans (Nat.le_trans (Nat.le_trans Z0 E6.1) (Nat.le_of_eq (Wr.size W12).symm)) E13.1) (Nat.le_of_eq (Wr.size W19).symm)), ((((K0.ext E6).wr W12 (Or.inl (List.mem_of_getElem? (i := 0) rfl))).ext E13).wr W19 (Or.inl (List.mem_of_getElem? (i := 0) rfl))), f31, f23, F19, f32, f33, f25, f27, f20, (show (0 : Int32).toInt = (0 : Int) ∧ 0 ≤ w0n ∧ (w0n) = w0n - 0 ∧ (0 : Int64).toInt = ((0 * w1n : Nat) : Int) ∧ (∀ i, i < 0 → ((fun _ => (0 : Int32)) i).toInt = (w0n : Int)) ∧ (∀ i, i < 0 → ((fun _ => (0 : Int64)) i).toInt = ((i * w1n : Nat) : Int)) from ⟨rfl, by omega, rfl, by simp, fun i hi => absurd hi (by omega), fun i hi => absurd hi (by omega)⟩)⟩
  rintro kq ⟨Tj93r0, Lj93r0, hj93r0, iv, qv, gN, gR, kv⟩ hP93r0 IH93r0
  obtain ⟨Xj93r0, ej93r0, Nj93r0, zj93r0, Kj93r0, fj93r0_0, fj93r0_1, fj93r0_2, fj93r0_3, fj93r0_4, fj93r0_5, fj93r0_6, fj93r0_7, hJ93r0⟩ : Stand p l e ({ frames := 1, cells := 4, slots := 420, locals := 12 } : Room) s m #[(.ref a1), (.ref x1)] below meth c Tj93r0 Lj93r0 2 394 ∧ Tj93r0.heap = hj93r0 ∧ Fr n0 Lj93r0 ∧ n0 ≤ hj93r0.size ∧ Keep h0 hj93r0 [a1] ∧ Exa Z hj93r0 a1 "com/example/firstfail/firstfail/pairwise/Pairs" ∧ Fld Z hj93r0 a1 "com/example/firstfail/firstfail/pairwise/Pairs" "nextColumn" "[I" (.ref b6) ∧ Fld Z hj93r0 a1 "com/example/firstfail/firstfail/pairwise/Pairs" "rowStart" "[J" (.ref b13) ∧ Fld Z hj93r0 a1 "com/example/firstfail/firstfail/pairwise/Pairs" "covered" "[J" .null ∧ Fld Z hj93r0 a1 "com/example/firstfail/firstfail/pairwise/Pairs" "forbidden" "[J" .null ∧ ArF Z hj93r0 b6 .int (w0n + w1n) (fun i => .int (gN i)) ∧ ArF Z hj93r0 b13 .long (w0n + w1n) (fun i => .long (gR i)) ∧ ArF Z hj93r0 x1 .int 2 (fun i => .int (gw i)) ∧ (iv.toInt = (kv : Int) ∧ kv ≤ w0n ∧ kq = w0n - kv ∧ qv.toInt = ((kv * w1n : Nat) : Int) ∧ (∀ i, i < kv → (gN i).toInt = (w0n : Int)) ∧ (∀ i, i < kv → (gR i).toInt = ((i * w1n : Nat) : Int))) := hP93r0
  show Go p.tables e below s _ _ _ (Tj93r0.setTop (mkF m 93 #[.val (.ref a1), .val (.ref x1), .val (.int v5), .val (.long qv), .second, .val (.int iv), .val (.int v22), .val (.ref x1), .val (.int (2 : Int32)), .val (.int (0 : Int32)), .val (.int v21)] []))
  obtain ⟨hiv, hkv, hkq, hqv, hgN, hgR⟩ := hJ93r0
  refine g_iload Xj93r0 hx hby d1_93 (pc' := 95) rfl rfl ?_
  refine g_iload Xj93r0 hx hby d1_95 (pc' := 97) rfl rfl ?_
  by_cases hc97 : iv.toInt < v22.toInt
  · refine g_icmpNo Xj93r0 hx hby d1_97 (pc' := 100) (tlt (show iv < v22 from Int32.lt_iff_toInt_lt.mpr hc97)).2.1 rfl ?_
    refine g_aloadN Xj93r0 hx hby d1_100 (pc' := 101) rfl rfl rfl ?_
    refine g_getf Xj93r0 hx hby hZ hown (host := "") (Or.inl (wi hw 14 rfl)) Via.refl ej93r0 fj93r0_1 d1_101 (pc' := 104) rfl ?_
    intro T34 X34 e34
    refine g_iload X34 hx hby d1_104 (pc' := 106) rfl rfl ?_
    refine g_iload X34 hx hby d1_106 (pc' := 108) rfl rfl ?_
    refine Go.iastore X34 hx hZ e34 fj93r0_5 (k := kv) hiv (by omega) (hb hby d1_108) (pc' := 109) rfl ?_
    intro T35 h35 X35 e35 W35 V35
    refine g_aloadN X35 hx hby d1_109 (pc' := 110) rfl rfl rfl ?_
    have f36 := (fj93r0_2.other W35 (Or.inl ne24))
    refine g_getf X35 hx hby hZ hown (host := "") (Or.inl (wi hw 17 rfl)) Via.refl e35 f36 d1_110 (pc' := 113) rfl ?_
    intro T37 X37 e37
    refine g_iload X37 hx hby d1_113 (pc' := 115) rfl rfl ?_
    refine g_lloadN X37 hx hby d1_115 (pc' := 116) rfl rfl ?_
    have f38 := (fj93r0_6.other W35 (Ne.symm ne28))
    refine Go.lastore X37 hx hZ e37 f38 (k := kv) hiv (by omega) (hb hby d1_116) (pc' := 117) rfl ?_
    intro T39 h39 X39 e39 W39 V39
    refine g_lloadN X39 hx hby d1_117 (pc' := 118) rfl rfl ?_
    refine g_aloadN X39 hx hby d1_118 (pc' := 119) rfl rfl rfl ?_
    have f40 := ((fj93r0_1.other W35 (Or.inl ne24)).other W39 (Or.inl ne26))
    refine g_getf X39 hx hby hZ hown (host := "") (Or.inl (wi hw 14 rfl)) Via.refl e39 f40 d1_119 (pc' := 122) rfl ?_
    intro T41 X41 e41
    have f42 := V35.other W39 ne28
    refine Go.alen X41 hx hZ e41 f42 (z := (((w0n + w1n) : Nat).toInt32)) rfl (hb hby d1_122) (pc' := 123) rfl ?_
    refine g_iload X41 hx hby d1_123 (pc' := 125) rfl rfl ?_
    refine g_isub X41 hx hby d1_125 (pc' := 126) rfl rfl ?_
    refine g_i2l X41 hx hby d1_126 (pc' := 127) rfl rfl ?_
    refine g_ladd X41 hx hby d1_127 (pc' := 128) rfl rfl ?_
    generalize hv43 : (qv + (((((w0n + w1n) : Nat).toInt32) - v22).toInt64)) = v43
    refine g_lstoreN X41 hx hby d1_128 (pc' := 129) rfl (L' := #[.val (.ref a1), .val (.ref x1), .val (.int v5), .val (.long v43), .second, .val (.int iv), .val (.int v22), .val (.ref x1), .val (.int (2 : Int32)), .val (.int (0 : Int32)), .val (.int v21)]) rfl ?_
    refine g_iinc X41 hx hby d1_129 (pc' := 132) rfl rfl (L' := #[.val (.ref a1), .val (.ref x1), .val (.int v5), .val (.long v43), .second, .val (.int (iv + (1 : Int32))), .val (.int v22), .val (.ref x1), .val (.int (2 : Int32)), .val (.int (0 : Int32)), .val (.int v21)]) rfl ?_
    refine g_goto X41 hx hby d1_132 (pc' := 93) (by decide) (by decide) ?_
    have hl := len_toInt (n := w0n + w1n) (by omega)
    have hc1 := c_isub ((w0n + w1n : Nat).toInt32) v22
    have hc2 := c_i2l (((w0n + w1n : Nat).toInt32) - v22)
    have hc3 := c_ladd qv ((((w0n + w1n : Nat).toInt32) - v22).toInt64)
    have hc4 := rng32 (((w0n + w1n : Nat).toInt32) - v22)
    have hc5 := rng64 (qv + ((((w0n + w1n : Nat).toInt32) - v22).toInt64))
    have hkm : kv * w1n ≤ 4 * 193 := Nat.mul_le_mul (by omega) (by omega)
    have hkS : (kv + 1) * w1n = kv * w1n + w1n := Nat.succ_mul _ _
    have hq' : v43.toInt = (((kv + 1) * w1n : Nat) : Int) := by rw [← hv43]; omega
    have f44 := ((fj93r0_0.wr W35).wr W39)
    have f45 := (f36.other W39 (Or.inl ne26))
    have f46 := ((fj93r0_3.other W35 (Or.inl ne24)).other W39 (Or.inl ne26))
    have f47 := ((fj93r0_4.other W35 (Or.inl ne24)).other W39 (Or.inl ne26))
    have f48 := ((fj93r0_7.other W35 ne29).other W39 ne30)
    exact IH93r0 (w0n - (kv + 1)) (T41, _, h39, (iv + (1 : Int32)), v43, (upI gN kv v22), (upJ gR kv qv), (kv + 1)) (by omega) ⟨X41.more (by decide) (by decide), e41, (Fr.snoc X39 (Fr.snoc X35 Nj93r0 g7) g14), (Nat.le_trans (Nat.le_trans zj93r0 (Nat.le_of_eq (Wr.size W35).symm)) (Nat.le_of_eq (Wr.size W39).symm)), ((Kj93r0.wr W35 (Or.inr s8)).wr W39 (Or.inr s15)), f44, f40, f45, f46, f47, f42, V39, f48, (show (iv + (1 : Int32)).toInt = ((kv + 1) : Int) ∧ (kv + 1) ≤ w0n ∧ (w0n - (kv + 1)) = w0n - (kv + 1) ∧ v43.toInt = (((kv + 1) * w1n : Nat) : Int) ∧ (∀ i, i < (kv + 1) → ((upI gN kv v22) i).toInt = (w0n : Int)) ∧ (∀ i, i < (kv + 1) → ((upJ gR kv qv) i).toInt = ((i * w1n : Nat) : Int)) from ⟨by have : ((iv + (1 : Int32)).toInt - (iv.toInt + (1))) % 4294967296 = 0 := c_iadd _ _; have : -2147483648 ≤ (iv + (1 : Int32)).toInt ∧ (iv + (1 : Int32)).toInt < 2147483648 := rng32 _; have : -2147483648 ≤ iv.toInt ∧ iv.toInt < 2147483648 := rng32 _; omega, by omega, by omega, hq', own_upN gN kv _ _ hgN hnx, own_upR gR kv w1n _ hgR hqv⟩)⟩
  · refine g_icmpYes Xj93r0 hx hby d1_97 (pc' := 135) (flt (show ¬ (iv < v22) from fun q => hc97 (Int32.lt_iff_toInt_lt.mp q))).2.1 (by decide) (by decide) ?_
    have hend : kv = w0n := by omega
    refine g_iinc Xj93r0 hx hby d1_135 (pc' := 138) rfl rfl (L' := #[.val (.ref a1), .val (.ref x1), .val (.int v5), .val (.long qv), .second, .val (.int iv), .val (.int v22), .val (.ref x1), .val (.int (2 : Int32)), .val (.int (1 : Int32)), .val (.int v21)]) rfl ?_
    refine g_goto Xj93r0 hx hby d1_138 (pc' := 72) (by decide) (by decide) ?_
    refine g_iload Xj93r0 hx hby d1_72 (pc' := 74) rfl rfl ?_
    refine g_iload Xj93r0 hx hby d1_74 (pc' := 76) rfl rfl ?_
    have hc76 : (1 : Int) < (2 : Int) := by decide
    refine g_icmpNo Xj93r0 hx hby d1_76 (pc' := 79) (tlt (show (1 : Int32) < (2 : Int32) from Int32.lt_iff_toInt_lt.mpr hc76)).2.1 rfl ?_
    refine g_aload Xj93r0 hx hby d1_79 (pc' := 81) rfl rfl rfl ?_
    refine g_iload Xj93r0 hx hby d1_81 (pc' := 83) rfl rfl ?_
    refine Go.iaload Xj93r0 hx hZ ej93r0 fj93r0_7 (k := 1) rfl (by decide) rfl (hb hby d1_83) (pc' := 84) rfl ?_
    generalize hv49 : (gw 1) = v49
    refine g_istore Xj93r0 hx hby d1_84 (pc' := 86) rfl (L' := #[.val (.ref a1), .val (.ref x1), .val (.int v5), .val (.long qv), .second, .val (.int iv), .val (.int v22), .val (.ref x1), .val (.int (2 : Int32)), .val (.int (1 : Int32)), .val (.int v49)]) rfl ?_
    refine g_iload Xj93r0 hx hby d1_86 (pc' := 88) rfl rfl ?_
    refine g_iload Xj93r0 hx hby d1_88 (pc' := 90) rfl rfl ?_
    refine g_iadd Xj93r0 hx hby d1_90 (pc' := 91) rfl rfl ?_
    generalize hv50 : (v22 + v49) = v50
    refine g_istore Xj93r0 hx hby d1_91 (pc' := 93) rfl (L' := #[.val (.ref a1), .val (.ref x1), .val (.int v5), .val (.long qv), .second, .val (.int iv), .val (.int v50), .val (.ref x1), .val (.int (2 : Int32)), .val (.int (1 : Int32)), .val (.int v49)]) rfl ?_
    have hnx2 : v50.toInt = ((w0n + w1n : Nat) : Int) := by rw [← hv50, ← hv22, ← hv21, ← hv49]; have : ((((0 : Int32) + (gw 0)) + (gw 1)).toInt - (((0 : Int32) + (gw 0)).toInt + (gw 1).toInt)) % 4294967296 = 0 := c_iadd _ _; have : -2147483648 ≤ (((0 : Int32) + (gw 0)) + (gw 1)).toInt ∧ (((0 : Int32) + (gw 0)) + (gw 1)).toInt < 2147483648 := rng32 _; have : (((0 : Int32) + (gw 0)).toInt - ((0) + (gw 0).toInt)) % 4294967296 = 0 := c_iadd _ _; have : -2147483648 ≤ ((0 : Int32) + (gw 0)).toInt ∧ ((0 : Int32) + (gw 0)).toInt < 2147483648 := rng32 _; have : -2147483648 ≤ (gw 0).toInt ∧ (gw 0).toInt < 2147483648 := rng32 _; have : -2147483648 ≤ (gw 1).toInt ∧ (gw 1).toInt < 2147483648 := rng32 _; omega
    refine Go.loop (α := State × (List Loc) × Heap × Int32 × Int64 × (Nat → Int32) × (Nat → Int64) × Nat) (P := fun kq x => (fun (Tj93r1 : State) (Lj93r1 : List Loc) (hj93r1 : Heap) (iv : Int32) (qv : Int64) (gN : Nat → Int32) (gR : Nat → Int64) (kv : Nat) => Stand p l e ({ frames := 1, cells := 4, slots := 420, locals := 12 } : Room) s m #[(.ref a1), (.ref x1)] below meth c Tj93r1 Lj93r1 2 394 ∧ Tj93r1.heap = hj93r1 ∧ Fr n0 Lj93r1 ∧ n0 ≤ hj93r1.size ∧ Keep h0 hj93r1 [a1] ∧ Exa Z hj93r1 a1 "com/example/firstfail/firstfail/pairwise/Pairs" ∧ Fld Z hj93r1 a1 "com/example/firstfail/firstfail/pairwise/Pairs" "nextColumn" "[I" (.ref b6) ∧ Fld Z hj93r1 a1 "com/example/firstfail/firstfail/pairwise/Pairs" "rowStart" "[J" (.ref b13) ∧ Fld Z hj93r1 a1 "com/example/firstfail/firstfail/pairwise/Pairs" "covered" "[J" .null ∧ Fld Z hj93r1 a1 "com/example/firstfail/firstfail/pairwise/Pairs" "forbidden" "[J" .null ∧ ArF Z hj93r1 b6 .int (w0n + w1n) (fun i => .int (gN i)) ∧ ArF Z hj93r1 b13 .long (w0n + w1n) (fun i => .long (gR i)) ∧ ArF Z hj93r1 x1 .int 2 (fun i => .int (gw i)) ∧ (iv.toInt = (kv : Int) ∧ (w0n ≤ kv ∧ kv ≤ w0n + w1n) ∧ kq = w0n + w1n - kv ∧ qv.toInt = ((w0n * w1n : Nat) : Int) ∧ (∀ i, i < w0n → (gN i).toInt = (w0n : Int)) ∧ (∀ i, i < w0n → (gR i).toInt = ((i * w1n : Nat) : Int)))) x.1 x.2.1 x.2.2.1 x.2.2.2.1 x.2.2.2.2.1 x.2.2.2.2.2.1 x.2.2.2.2.2.2.1 x.2.2.2.2.2.2.2) (F := fun x => (fun (Tj93r1 : State) (Lj93r1 : List Loc) (hj93r1 : Heap) (iv : Int32) (qv : Int64) (gN : Nat → Int32) (gR : Nat → Int64) (kv : Nat) => Tj93r1.setTop (mkF m 93 #[.val (.ref a1), .val (.ref x1), .val (.int v5), .val (.long qv), .second, .val (.int iv), .val (.int v50), .val (.ref x1), .val (.int (2 : Int32)), .val (.int (1 : Int32)), .val (.int v49)] [])) x.1 x.2.1 x.2.2.1 x.2.2.2.1 x.2.2.2.2.1 x.2.2.2.2.2.1 x.2.2.2.2.2.2.1 x.2.2.2.2.2.2.2) ?_ (w0n + w1n - kv) (Tj93r0, _, hj93r0, iv, qv, gN, gR, kv) ⟨Xj93r0.more (by decide) (by decide), ej93r0, Nj93r0, zj93r0, Kj93r0, fj93r0_0, fj93r0_1, fj93r0_2, fj93r0_3, fj93r0_4, fj93r0_5, fj93r0_6, fj93r0_7, (show iv.toInt = (kv : Int) ∧ (w0n ≤ kv ∧ kv ≤ w0n + w1n) ∧ (w0n + w1n - kv) = w0n + w1n - kv ∧ qv.toInt = ((w0n * w1n : Nat) : Int) ∧ (∀ i, i < w0n → (gN i).toInt = (w0n : Int)) ∧ (∀ i, i < w0n → (gR i).toInt = ((i * w1n : Nat) : Int)) from ⟨hiv, ⟨by omega, by omega⟩, rfl, by rw [hqv]; rw [hend], fun i hi => hgN i (by omega), fun i hi => hgR i (by omega)⟩)⟩
    rintro kq ⟨Tj93r1, Lj93r1, hj93r1, iv, qv, gN, gR, kv⟩ hP93r1 IH93r1
    obtain ⟨Xj93r1, ej93r1, Nj93r1, zj93r1, Kj93r1, fj93r1_0, fj93r1_1, fj93r1_2, fj93r1_3, fj93r1_4, fj93r1_5, fj93r1_6, fj93r1_7, hJ93r1⟩ : Stand p l e ({ frames := 1, cells := 4, slots := 420, locals := 12 } : Room) s m #[(.ref a1), (.ref x1)] below meth c Tj93r1 Lj93r1 2 394 ∧ Tj93r1.heap = hj93r1 ∧ Fr n0 Lj93r1 ∧ n0 ≤ hj93r1.size ∧ Keep h0 hj93r1 [a1] ∧ Exa Z hj93r1 a1 "com/example/firstfail/firstfail/pairwise/Pairs" ∧ Fld Z hj93r1 a1 "com/example/firstfail/firstfail/pairwise/Pairs" "nextColumn" "[I" (.ref b6) ∧ Fld Z hj93r1 a1 "com/example/firstfail/firstfail/pairwise/Pairs" "rowStart" "[J" (.ref b13) ∧ Fld Z hj93r1 a1 "com/example/firstfail/firstfail/pairwise/Pairs" "covered" "[J" .null ∧ Fld Z hj93r1 a1 "com/example/firstfail/firstfail/pairwise/Pairs" "forbidden" "[J" .null ∧ ArF Z hj93r1 b6 .int (w0n + w1n) (fun i => .int (gN i)) ∧ ArF Z hj93r1 b13 .long (w0n + w1n) (fun i => .long (gR i)) ∧ ArF Z hj93r1 x1 .int 2 (fun i => .int (gw i)) ∧ (iv.toInt = (kv : Int) ∧ (w0n ≤ kv ∧ kv ≤ w0n + w1n) ∧ kq = w0n + w1n - kv ∧ qv.toInt = ((w0n * w1n : Nat) : Int) ∧ (∀ i, i < w0n → (gN i).toInt = (w0n : Int)) ∧ (∀ i, i < w0n → (gR i).toInt = ((i * w1n : Nat) : Int))) := hP93r1
    show Go p.tables e below s _ _ _ (Tj93r1.setTop (mkF m 93 #[.val (.ref a1), .val (.ref x1), .val (.int v5), .val (.long qv), .second, .val (.int iv), .val (.int v50), .val (.ref x1), .val (.int (2 : Int32)), .val (.int (1 : Int32)), .val (.int v49)] []))
    obtain ⟨hiv2, hkv2, hkq2, hqv2, hgN2, hgR2⟩ := hJ93r1
    refine g_iload Xj93r1 hx hby d1_93 (pc' := 95) rfl rfl ?_
    refine g_iload Xj93r1 hx hby d1_95 (pc' := 97) rfl rfl ?_
    by_cases hc97 : iv.toInt < v50.toInt
    · refine g_icmpNo Xj93r1 hx hby d1_97 (pc' := 100) (tlt (show iv < v50 from Int32.lt_iff_toInt_lt.mpr hc97)).2.1 rfl ?_
      refine g_aloadN Xj93r1 hx hby d1_100 (pc' := 101) rfl rfl rfl ?_
      refine g_getf Xj93r1 hx hby hZ hown (host := "") (Or.inl (wi hw 14 rfl)) Via.refl ej93r1 fj93r1_1 d1_101 (pc' := 104) rfl ?_
      intro T51 X51 e51
      refine g_iload X51 hx hby d1_104 (pc' := 106) rfl rfl ?_
      refine g_iload X51 hx hby d1_106 (pc' := 108) rfl rfl ?_
      refine Go.iastore X51 hx hZ e51 fj93r1_5 (k := kv) hiv2 (by omega) (hb hby d1_108) (pc' := 109) rfl ?_
      intro T52 h52 X52 e52 W52 V52
      refine g_aloadN X52 hx hby d1_109 (pc' := 110) rfl rfl rfl ?_
      have f53 := (fj93r1_2.other W52 (Or.inl ne24))
      refine g_getf X52 hx hby hZ hown (host := "") (Or.inl (wi hw 17 rfl)) Via.refl e52 f53 d1_110 (pc' := 113) rfl ?_
      intro T54 X54 e54
      refine g_iload X54 hx hby d1_113 (pc' := 115) rfl rfl ?_
      refine g_lloadN X54 hx hby d1_115 (pc' := 116) rfl rfl ?_
      have f55 := (fj93r1_6.other W52 (Ne.symm ne28))
      refine Go.lastore X54 hx hZ e54 f55 (k := kv) hiv2 (by omega) (hb hby d1_116) (pc' := 117) rfl ?_
      intro T56 h56 X56 e56 W56 V56
      refine g_lloadN X56 hx hby d1_117 (pc' := 118) rfl rfl ?_
      refine g_aloadN X56 hx hby d1_118 (pc' := 119) rfl rfl rfl ?_
      have f57 := ((fj93r1_1.other W52 (Or.inl ne24)).other W56 (Or.inl ne26))
      refine g_getf X56 hx hby hZ hown (host := "") (Or.inl (wi hw 14 rfl)) Via.refl e56 f57 d1_119 (pc' := 122) rfl ?_
      intro T58 X58 e58
      have f59 := V52.other W56 ne28
      refine Go.alen X58 hx hZ e58 f59 (z := (((w0n + w1n) : Nat).toInt32)) rfl (hb hby d1_122) (pc' := 123) rfl ?_
      refine g_iload X58 hx hby d1_123 (pc' := 125) rfl rfl ?_
      refine g_isub X58 hx hby d1_125 (pc' := 126) rfl rfl ?_
      refine g_i2l X58 hx hby d1_126 (pc' := 127) rfl rfl ?_
      refine g_ladd X58 hx hby d1_127 (pc' := 128) rfl rfl ?_
      generalize hv60 : (qv + (((((w0n + w1n) : Nat).toInt32) - v50).toInt64)) = v60
      refine g_lstoreN X58 hx hby d1_128 (pc' := 129) rfl (L' := #[.val (.ref a1), .val (.ref x1), .val (.int v5), .val (.long v60), .second, .val (.int iv), .val (.int v50), .val (.ref x1), .val (.int (2 : Int32)), .val (.int (1 : Int32)), .val (.int v49)]) rfl ?_
      refine g_iinc X58 hx hby d1_129 (pc' := 132) rfl rfl (L' := #[.val (.ref a1), .val (.ref x1), .val (.int v5), .val (.long v60), .second, .val (.int (iv + (1 : Int32))), .val (.int v50), .val (.ref x1), .val (.int (2 : Int32)), .val (.int (1 : Int32)), .val (.int v49)]) rfl ?_
      refine g_goto X58 hx hby d1_132 (pc' := 93) (by decide) (by decide) ?_
      have hl := len_toInt (n := w0n + w1n) (by omega)
      have hc1 := c_isub ((w0n + w1n : Nat).toInt32) v50
      have hc2 := c_i2l (((w0n + w1n : Nat).toInt32) - v50)
      have hc3 := c_ladd qv ((((w0n + w1n : Nat).toInt32) - v50).toInt64)
      have hc4 := rng32 (((w0n + w1n : Nat).toInt32) - v50)
      have hc5 := rng64 (qv + ((((w0n + w1n : Nat).toInt32) - v50).toInt64))
      have hq' : v60.toInt = ((w0n * w1n : Nat) : Int) := by rw [← hv60]; omega
      have f61 := ((fj93r1_0.wr W52).wr W56)
      have f62 := (f53.other W56 (Or.inl ne26))
      have f63 := ((fj93r1_3.other W52 (Or.inl ne24)).other W56 (Or.inl ne26))
      have f64 := ((fj93r1_4.other W52 (Or.inl ne24)).other W56 (Or.inl ne26))
      have f65 := ((fj93r1_7.other W52 ne29).other W56 ne30)
      exact IH93r1 (w0n + w1n - (kv + 1)) (T58, _, h56, (iv + (1 : Int32)), v60, (upI gN kv v50), (upJ gR kv qv), (kv + 1)) (by omega) ⟨X58.more (by decide) (by decide), e58, (Fr.snoc X56 (Fr.snoc X52 Nj93r1 g7) g14), (Nat.le_trans (Nat.le_trans zj93r1 (Nat.le_of_eq (Wr.size W52).symm)) (Nat.le_of_eq (Wr.size W56).symm)), ((Kj93r1.wr W52 (Or.inr s8)).wr W56 (Or.inr s15)), f61, f57, f62, f63, f64, f59, V56, f65, (show (iv + (1 : Int32)).toInt = ((kv + 1) : Int) ∧ (w0n ≤ (kv + 1) ∧ (kv + 1) ≤ w0n + w1n) ∧ (w0n + w1n - (kv + 1)) = w0n + w1n - (kv + 1) ∧ v60.toInt = ((w0n * w1n : Nat) : Int) ∧ (∀ i, i < w0n → ((upI gN kv v50) i).toInt = (w0n : Int)) ∧ (∀ i, i < w0n → ((upJ gR kv qv) i).toInt = ((i * w1n : Nat) : Int)) from ⟨by have : ((iv + (1 : Int32)).toInt - (iv.toInt + (1))) % 4294967296 = 0 := c_iadd _ _; have : -2147483648 ≤ (iv + (1 : Int32)).toInt ∧ (iv + (1 : Int32)).toInt < 2147483648 := rng32 _; have : -2147483648 ≤ iv.toInt ∧ iv.toInt < 2147483648 := rng32 _; omega, ⟨by omega, by omega⟩, by omega, hq', fun i hi => by rw [Jvm.OwnKit.upI, if_neg (by omega)]; exact hgN2 i hi, fun i hi => by rw [Jvm.OwnKit.upJ, if_neg (by omega)]; exact hgR2 i hi⟩)⟩
    · refine g_icmpYes Xj93r1 hx hby d1_97 (pc' := 135) (flt (show ¬ (iv < v50) from fun q => hc97 (Int32.lt_iff_toInt_lt.mp q))).2.1 (by decide) (by decide) ?_
      have hend2 : kv = w0n + w1n := by omega
      refine g_iinc Xj93r1 hx hby d1_135 (pc' := 138) rfl rfl (L' := #[.val (.ref a1), .val (.ref x1), .val (.int v5), .val (.long qv), .second, .val (.int iv), .val (.int v50), .val (.ref x1), .val (.int (2 : Int32)), .val (.int (2 : Int32)), .val (.int v49)]) rfl ?_
      refine g_goto Xj93r1 hx hby d1_138 (pc' := 72) (by decide) (by decide) ?_
      refine g_iload Xj93r1 hx hby d1_72 (pc' := 74) rfl rfl ?_
      refine g_iload Xj93r1 hx hby d1_74 (pc' := 76) rfl rfl ?_
      have hc76 : ¬ ((2 : Int) < (2 : Int)) := by decide
      refine g_icmpYes Xj93r1 hx hby d1_76 (pc' := 141) (flt (show ¬ ((2 : Int32) < (2 : Int32)) from fun q => hc76 (Int32.lt_iff_toInt_lt.mp q))).2.1 (by decide) (by decide) ?_
      refine g_lloadN Xj93r1 hx hby d1_141 (pc' := 142) rfl rfl ?_
      refine g_ldcL Xj93r1 hx hby hZ hown (wi hw 19 rfl) d1_142 (pc' := 145) rfl ?_
      refine g_ladd Xj93r1 hx hby d1_145 (pc' := 146) rfl rfl ?_
      refine Go.of (fun _ k => XS.lconst Xj93r1.here hx rfl (hb hby d1_146) k) ?_
      show Go p.tables e below s _ _ _ (Tj93r1.setTop (mkF m 147 #[.val (.ref a1), .val (.ref x1), .val (.int v5), .val (.long qv), .second, .val (.int iv), .val (.int v50), .val (.ref x1), .val (.int (2 : Int32)), .val (.int (2 : Int32)), .val (.int v49)] [(.long (1 : Int64)), (.long (qv + (64 : Int64)))]))
      refine g_lsub Xj93r1 hx hby d1_147 (pc' := 148) rfl rfl ?_
      refine g_ldcL Xj93r1 hx hby hZ hown (wi hw 19 rfl) d1_148 (pc' := 151) rfl ?_
      refine g_ldiv Xj93r1 hx hby d1_151 (pc' := 152) rfl (by decide) rfl ?_
      generalize hv66 : (((qv + (64 : Int64)) - (1 : Int64)) / (64 : Int64)) = v66
      refine g_lstore Xj93r1 hx hby d1_152 (pc' := 154) rfl (L' := #[.val (.ref a1), .val (.ref x1), .val (.int v5), .val (.long qv), .second, .val (.int iv), .val (.int v50), .val (.long v66), .second, .val (.int (2 : Int32)), .val (.int v49)]) rfl ?_
      have hWv : v66.toInt = (((w0n * w1n + 63) / 64 : Nat) : Int) := by
        rw [← hv66]
        have h1 := c_ladd qv 64
        have h2 := c_lsub (qv + (64 : Int64)) 1
        have h3 := rng64 (qv + (64 : Int64))
        have h4 := rng64 ((qv + (64 : Int64)) - (1 : Int64))
        have h0 : (64 : Int64).toInt = 64 := rfl
        have h0' : (1 : Int64).toInt = 1 := rfl
        have h5 := (c_ldiv ((qv + (64 : Int64)) - (1 : Int64)) 64 64 rfl (by decide)).1 (by omega)
        omega
      have hW32 : (v66.toInt32).toInt = (((w0n * w1n + 63) / 64 : Nat) : Int) := by
        have h1 := c_l2i v66
        have h2 := rng32 (v66.toInt32)
        omega
      refine g_lload Xj93r1 hx hby d1_154 (pc' := 156) rfl rfl ?_
      refine g_ldcL Xj93r1 hx hby hZ hown (wi hw 20 rfl) d1_156 (pc' := 159) rfl ?_
      refine g_lcmp Xj93r1 hx hby d1_159 (pc' := 160) rfl  ?_
      have hc160 : ¬ ((2147483639 : Int) < v66.toInt) := by omega
      refine g_ifYes Xj93r1 hx hby d1_160 (pc' := 177) (flt (show ¬ ((0 : Int32) < (lcmpW v66 (2147483639 : Int64))) from fun q => hc160 (Int64.lt_iff_toInt_lt.mp ((lw_gt v66 (2147483639 : Int64)).mp q)))).2.2.2 (by decide) (by decide) ?_
      refine g_aloadN Xj93r1 hx hby d1_177 (pc' := 178) rfl rfl rfl ?_
      refine g_lload Xj93r1 hx hby d1_178 (pc' := 180) rfl rfl ?_
      refine g_l2i Xj93r1 hx hby d1_180 (pc' := 181) rfl rfl ?_
      refine Go.newarr Xj93r1 hx hZ (n := ((w0n * w1n + 63) / 64)) (cap := 13) (ty := .long) rfl (wi hw 16 rfl) ej93r1 (by rw [Int32.lt_iff_toInt_lt]; show ¬ (v66.toInt32).toInt < 0; rw [hW32]; omega) (nat_idx hW32) (by omega) (by decide) (by decide) (by decide) (hb hby d1_181) (pc' := 183) rfl ?_
      intro T67 h67 b67 X67 e67 E67 hb67 V67
      have g68 : n0 ≤ b67 := by rw [hb67]; exact zj93r1
      have s69 : h0.size ≤ b67 := by rw [hb67]; exact Kj93r1.1
      have V70 : ArF Z h67 b67 .long ((w0n * w1n + 63) / 64) (fun i => .long ((fun _ => (0 : Int64)) i)) := V67
      have f71 := fj93r1_3.ext E67
      have f72 := fj93r1_0.ext E67
      refine g_putf X67 hx hby hZ hown (host := "") (Or.inl (wi hw 21 rfl)) Via.refl e67 f71 f72 (Or.inr ⟨(wi hw 22 rfl), rfl, hnm⟩) (wi hw 6 rfl) (ty := (.array .long)) (by decide) rfl rfl d1_183 (pc' := 186) rfl ?_
      intro T73 h73 X73 e73 W73 F73
      refine g_aloadN X73 hx hby d1_186 (pc' := 187) rfl rfl rfl ?_
      refine g_lload X73 hx hby d1_187 (pc' := 189) rfl rfl ?_
      refine g_l2i X73 hx hby d1_189 (pc' := 190) rfl rfl ?_
      refine Go.newarr X73 hx hZ (n := ((w0n * w1n + 63) / 64)) (cap := 13) (ty := .long) rfl (wi hw 16 rfl) e73 (by rw [Int32.lt_iff_toInt_lt]; show ¬ (v66.toInt32).toInt < 0; rw [hW32]; omega) (nat_idx hW32) (by omega) (by decide) (by decide) (by decide) (hb hby d1_190) (pc' := 192) rfl ?_
      intro T74 h74 b74 X74 e74 E74 hb74 V74
      have g75 : n0 ≤ b74 := by rw [hb74]; exact (Nat.le_trans (Nat.le_trans zj93r1 E67.1) (Nat.le_of_eq (Wr.size W73).symm))
      have s76 : h0.size ≤ b74 := by rw [hb74]; exact ((Kj93r1.ext E67).wr W73 (Or.inl (List.mem_of_getElem? (i := 0) rfl))).1
      have V77 : ArF Z h74 b74 .long ((w0n * w1n + 63) / 64) (fun i => .long ((fun _ => (0 : Int64)) i)) := V74
      have f78 := (((fj93r1_4.ext E67).other W73 (Or.inr (sn6 hw))).ext E74)
      have f79 := ((f72.wr W73).ext E74)
      refine g_putf X74 hx hby hZ hown (host := "") (Or.inl (wi hw 23 rfl)) Via.refl e74 f78 f79 (Or.inr ⟨(wi hw 24 rfl), rfl, hnm⟩) (wi hw 6 rfl) (ty := (.array .long)) (by decide) rfl rfl d1_192 (pc' := 195) rfl ?_
      intro T80 h80 X80 e80 W80 F80
      refine Go.retV X80 hx hlk hret (hb hby d1_195) rfl (by decide) (by decide) ?_
      have f81 := ((F73.ext E74).other W80 (Or.inr (sn7 hw)))
      rw [e80]
      have ne82 : b6 ≠ b67 := Nat.ne_of_lt (by rw [hb67]; exact fj93r1_5.lt)
      have ne83 : b13 ≠ b67 := Nat.ne_of_lt (by rw [hb67]; exact fj93r1_6.lt)
      have f84 := ((((fj93r1_1.ext E67).other W73 (Or.inr (sn8 hw))).ext E74).other W80 (Or.inr (sn9 hw)))
      have f85 := ((((fj93r1_2.ext E67).other W73 (Or.inr (sn10 hw))).ext E74).other W80 (Or.inr (sn11 hw)))
      have f86 := ((((fj93r1_5.ext E67).other W73 (Ne.symm ne24)).ext E74).other W80 (Ne.symm ne24))
      have f87 := ((((fj93r1_6.ext E67).other W73 (Ne.symm ne26)).ext E74).other W80 (Ne.symm ne26))
      have ne88 : a1 ≠ b67 := Nat.ne_of_lt (by rw [hb67]; exact fj93r1_4.lt)
      have f89 := (((V70.other W73 (Ne.symm ne88)).ext E74).other W80 (Ne.symm ne88))
      exact ⟨b6, b13, b67, gN, gR, rfl, (Fr.snoc X80 (Fr.snoc X73 Nj93r1 ge_a1) ge_a1), ((((Kj93r1.ext E67).wr W73 (Or.inl (List.mem_of_getElem? (i := 0) rfl))).ext E74).wr W80 (Or.inl (List.mem_of_getElem? (i := 0) rfl))), g7, s8, g14, s15, g68, s69, ne28, ne82, ne83, f84, f85, f81, f86, f87, f89, hgN2, hgR2⟩
theorem d8_0 : decode prog_31_method_4_code 0 = .ok (.aload_n 0, 1) := by decide +kernel
theorem d8_1 : decode prog_31_method_4_code 1 = .ok (.iload_n 1, 1) := by decide +kernel
theorem d8_2 : decode prog_31_method_4_code 2 = .ok (.iload_n 2, 1) := by decide +kernel
theorem d8_3 : decode prog_31_method_4_code 3 = .ok (.invokevirtual 48, 3) := by decide +kernel
theorem d8_6 : decode prog_31_method_4_code 6 = .ok (.lstore 4, 2) := by decide +kernel
theorem d8_8 : decode prog_31_method_4_code 8 = .ok (.iconst 0, 1) := by decide +kernel
theorem d8_9 : decode prog_31_method_4_code 9 = .ok (.istore 6, 2) := by decide +kernel
theorem d8_11 : decode prog_31_method_4_code 11 = .ok (.iload 6, 2) := by decide +kernel
theorem d8_13 : decode prog_31_method_4_code 13 = .ok (.aload_n 3, 1) := by decide +kernel
theorem d8_14 : decode prog_31_method_4_code 14 = .ok (.arraylength, 1) := by decide +kernel
theorem d8_15 : decode prog_31_method_4_code 15 = .ok (.if_icmp .ge 117, 3) := by decide +kernel
theorem d8_18 : decode prog_31_method_4_code 18 = .ok (.lload 4, 2) := by decide +kernel
theorem d8_20 : decode prog_31_method_4_code 20 = .ok (.ldc2_w 19, 3) := by decide +kernel
theorem d8_23 : decode prog_31_method_4_code 23 = .ok (.lrem, 1) := by decide +kernel
theorem d8_24 : decode prog_31_method_4_code 24 = .ok (.l2i, 1) := by decide +kernel
theorem d8_25 : decode prog_31_method_4_code 25 = .ok (.istore 7, 2) := by decide +kernel
theorem d8_27 : decode prog_31_method_4_code 27 = .ok (.bipush 64, 2) := by decide +kernel
theorem d8_29 : decode prog_31_method_4_code 29 = .ok (.iload 7, 2) := by decide +kernel
theorem d8_31 : decode prog_31_method_4_code 31 = .ok (.isub, 1) := by decide +kernel
theorem d8_32 : decode prog_31_method_4_code 32 = .ok (.aload_n 3, 1) := by decide +kernel
theorem d8_33 : decode prog_31_method_4_code 33 = .ok (.arraylength, 1) := by decide +kernel
theorem d8_34 : decode prog_31_method_4_code 34 = .ok (.iload 6, 2) := by decide +kernel
theorem d8_36 : decode prog_31_method_4_code 36 = .ok (.isub, 1) := by decide +kernel
theorem d8_37 : decode prog_31_method_4_code 37 = .ok (.invokestatic 52, 3) := by decide +kernel
theorem d8_40 : decode prog_31_method_4_code 40 = .ok (.istore 8, 2) := by decide +kernel
theorem d8_42 : decode prog_31_method_4_code 42 = .ok (.aload_n 0, 1) := by decide +kernel
theorem d8_43 : decode prog_31_method_4_code 43 = .ok (.getfield 34, 3) := by decide +kernel
theorem d8_46 : decode prog_31_method_4_code 46 = .ok (.lload 4, 2) := by decide +kernel
theorem d8_48 : decode prog_31_method_4_code 48 = .ok (.ldc2_w 19, 3) := by decide +kernel
theorem d8_51 : decode prog_31_method_4_code 51 = .ok (.ldiv, 1) := by decide +kernel
theorem d8_52 : decode prog_31_method_4_code 52 = .ok (.l2i, 1) := by decide +kernel
theorem d8_53 : decode prog_31_method_4_code 53 = .ok (.laload, 1) := by decide +kernel
theorem d8_54 : decode prog_31_method_4_code 54 = .ok (.ldc2_w 58, 3) := by decide +kernel
theorem d8_57 : decode prog_31_method_4_code 57 = .ok (.lxor, 1) := by decide +kernel
theorem d8_58 : decode prog_31_method_4_code 58 = .ok (.iload 7, 2) := by decide +kernel
theorem d8_60 : decode prog_31_method_4_code 60 = .ok (.lushr, 1) := by decide +kernel
theorem d8_61 : decode prog_31_method_4_code 61 = .ok (.lstore 9, 2) := by decide +kernel
theorem d8_81 : decode prog_31_method_4_code 81 = .ok (.lload 9, 2) := by decide +kernel
theorem d8_83 : decode prog_31_method_4_code 83 = .ok (.lconst 0, 1) := by decide +kernel
theorem d8_84 : decode prog_31_method_4_code 84 = .ok (.lcmp, 1) := by decide +kernel
theorem d8_85 : decode prog_31_method_4_code 85 = .ok (.ifCond .eq 29, 3) := by decide +kernel
theorem d8_114 : decode prog_31_method_4_code 114 = .ok (.iload 6, 2) := by decide +kernel
theorem d8_116 : decode prog_31_method_4_code 116 = .ok (.iload 8, 2) := by decide +kernel
theorem d8_118 : decode prog_31_method_4_code 118 = .ok (.iadd, 1) := by decide +kernel
theorem d8_119 : decode prog_31_method_4_code 119 = .ok (.istore 6, 2) := by decide +kernel
theorem d8_121 : decode prog_31_method_4_code 121 = .ok (.lload 4, 2) := by decide +kernel
theorem d8_123 : decode prog_31_method_4_code 123 = .ok (.iload 8, 2) := by decide +kernel
theorem d8_125 : decode prog_31_method_4_code 125 = .ok (.i2l, 1) := by decide +kernel
theorem d8_126 : decode prog_31_method_4_code 126 = .ok (.ladd, 1) := by decide +kernel
theorem d8_127 : decode prog_31_method_4_code 127 = .ok (.lstore 4, 2) := by decide +kernel
theorem d8_129 : decode prog_31_method_4_code 129 = .ok (.goto (-118), 3) := by decide +kernel
theorem d8_88 : decode prog_31_method_4_code 88 = .ok (.aload_n 3, 1) := by decide +kernel
theorem d8_89 : decode prog_31_method_4_code 89 = .ok (.iload 6, 2) := by decide +kernel
theorem d8_91 : decode prog_31_method_4_code 91 = .ok (.lload 9, 2) := by decide +kernel
theorem d8_93 : decode prog_31_method_4_code 93 = .ok (.invokestatic 60, 3) := by decide +kernel
theorem pd4 : parseMethodDescriptor "(J)I" = some ⟨[.long], some .int⟩ := by decide +kernel
theorem d8_96 : decode prog_31_method_4_code 96 = .ok (.iadd, 1) := by decide +kernel
theorem d8_97 : decode prog_31_method_4_code 97 = .ok (.dup2, 1) := by decide +kernel
theorem d8_98 : decode prog_31_method_4_code 98 = .ok (.iaload, 1) := by decide +kernel
theorem d8_99 : decode prog_31_method_4_code 99 = .ok (.iconst 1, 1) := by decide +kernel
theorem d8_100 : decode prog_31_method_4_code 100 = .ok (.iadd, 1) := by decide +kernel
theorem d8_101 : decode prog_31_method_4_code 101 = .ok (.iastore, 1) := by decide +kernel
theorem d8_102 : decode prog_31_method_4_code 102 = .ok (.lload 9, 2) := by decide +kernel
theorem d8_104 : decode prog_31_method_4_code 104 = .ok (.lload 9, 2) := by decide +kernel
theorem d8_106 : decode prog_31_method_4_code 106 = .ok (.lconst 1, 1) := by decide +kernel
theorem d8_107 : decode prog_31_method_4_code 107 = .ok (.lsub, 1) := by decide +kernel
theorem d8_108 : decode prog_31_method_4_code 108 = .ok (.land, 1) := by decide +kernel
theorem d8_109 : decode prog_31_method_4_code 109 = .ok (.lstore 9, 2) := by decide +kernel
theorem d8_111 : decode prog_31_method_4_code 111 = .ok (.goto (-30), 3) := by decide +kernel
theorem d8_63 : decode prog_31_method_4_code 63 = .ok (.iload 8, 2) := by decide +kernel
theorem d8_65 : decode prog_31_method_4_code 65 = .ok (.bipush 64, 2) := by decide +kernel
theorem d8_67 : decode prog_31_method_4_code 67 = .ok (.if_icmp .ge 14, 3) := by decide +kernel
theorem d8_70 : decode prog_31_method_4_code 70 = .ok (.lload 9, 2) := by decide +kernel
theorem d8_72 : decode prog_31_method_4_code 72 = .ok (.lconst 1, 1) := by decide +kernel
theorem d8_73 : decode prog_31_method_4_code 73 = .ok (.iload 8, 2) := by decide +kernel
theorem d8_75 : decode prog_31_method_4_code 75 = .ok (.lshl, 1) := by decide +kernel
theorem d8_76 : decode prog_31_method_4_code 76 = .ok (.lconst 1, 1) := by decide +kernel
theorem d8_77 : decode prog_31_method_4_code 77 = .ok (.lsub, 1) := by decide +kernel
theorem d8_78 : decode prog_31_method_4_code 78 = .ok (.land, 1) := by decide +kernel
theorem d8_79 : decode prog_31_method_4_code 79 = .ok (.lstore 9, 2) := by decide +kernel
theorem d8_132 : decode prog_31_method_4_code 132 = .ok (.return_, 1) := by decide +kernel
theorem ef_rm_count (m : MethodId) (x0 : Addr) (x1 : Int32) (x2 : Int32) (x3 : Addr) : entryFrame m #[(.ref x0), (.int x1), (.int x2), (.ref x3)] 11 = mkF m 0 #[.val (.ref x0), .val (.int x1), .val (.int x2), .val (.ref x3), .unset, .unset, .unset, .unset, .unset, .unset, .unset] [] := by first | (simp [entryFrame, mkF, argsToLocals, Value.category]; done) | rfl
abbrev Q_rm_count (Z : State) (a1 : Addr) (i1 : Int32) (i2 : Int32) (y1 : Addr) (x1 : Addr) (x2 : Addr) (n1 : Nat) (g1 : Nat → Int32) (g2 : Nat → Int64) (k1 : Nat) (x3 : Addr) (n3 : Nat) (g3 : Nat → Int64) (be : Nat) (gc : Nat → Int32) (h0 : Heap) (n0 : Nat) : Option Value → Heap → List Loc → Prop := fun v h L => v = none ∧ Fr n0 L ∧ Keep h0 h [y1] ∧ ArF Z h y1 .int 130 (fun i => .int ((own_cnt gc g3 be) i))
set_option maxRecDepth 65536 in
set_option maxHeartbeats 40000000 in
theorem rm_count (l : Launch) (Z : State) (a0 : Array Value) (hw : ∀ d ∈ tables_1, d.before a0 Z = true) (a1 : Addr) (i1 : Int32) (i2 : Int32) (y1 : Addr) (x1 : Addr) (x2 : Addr) (n1 : Nat) (g1 : Nat → Int32) (g2 : Nat → Int64) (k1 : Nat) (x3 : Addr) (n3 : Nat) (g3 : Nat → Int64) (be : Nat) (gc : Nat → Int32) (h0 : Heap) (n0 : Nat) (Z0 : n0 ≤ h0.size) (P0 : Exa Z h0 a1 "com/example/firstfail/firstfail/pairwise/Pairs") (P1 : Fld Z h0 a1 "com/example/firstfail/firstfail/pairwise/Pairs" "nextColumn" "[I" (.ref x1)) (P2 : Fld Z h0 a1 "com/example/firstfail/firstfail/pairwise/Pairs" "rowStart" "[J" (.ref x2)) (P3 : ArF Z h0 x1 .int n1 (fun i => .int (g1 i))) (P4 : ArF Z h0 x2 .long n1 (fun i => .long (g2 i))) (P5 : Fld Z h0 a1 "com/example/firstfail/firstfail/pairwise/Pairs" "covered" "[J" (.ref x3)) (P6 : ArF Z h0 x3 .long n3 (fun i => .long (g3 i))) (P7 : ArF Z h0 y1 .int 130 (fun i => .int (gc i))) (ne_y1_a1 : y1 ≠ a1) (ne_y1_x1 : y1 ≠ x1) (ne_y1_x2 : y1 ≠ x2) (ne_y1_x3 : y1 ≠ x3) (ge_y1 : n0 ≤ y1) (hlt : i1.toInt < i2.toInt) (hk : i1.toInt = (k1 : Int)) (hkn : k1 < n1) (hbe : (((g2 k1) + (i2.toInt64)) - ((g1 k1).toInt64)).toInt = (be : Int)) (hb3 : (be + 129) / 64 < n3) :
    Con l Z (⟨"com/example/firstfail/firstfail/pairwise/Pairs", "countUncovered", "(II[I)V"⟩ : MethodName) prog_31_method_4_code 11 none ({ frames := 2, cells := 0, slots := 0, locals := 30 } : Room) #[(.ref a1), (.int i1), (.int i2), (.ref y1)] h0 (Q_rm_count Z a1 i1 i2 y1 x1 x2 n1 g1 g2 k1 x3 n3 g3 be gc h0 n0) := by
  refine meet (y := (⟨"com/example/firstfail/firstfail/pairwise/Pairs", "countUncovered", "(II[I)V"⟩ : MethodName)) (Q := Q_rm_count Z a1 i1 i2 y1 x1 x2 n1 g1 g2 k1 x3 n3 g3 be gc h0 n0) (plainFor_of_name pn_com_example_firstfail_firstfail_pairwise_Pairs) (fun m => ef_rm_count m a1 i1 i2 y1) ?_
  intro p e s m below meth c T0 hx hby hml hZ hown hnm hret hlk X0 e0
  have N0 := Fr.nil n0
  have K0 := Keep.refl h0 [y1]
  refine g_aloadN X0 hx hby d8_0 (pc' := 1) rfl rfl rfl ?_
  refine g_iloadN X0 hx hby d8_1 (pc' := 2) rfl rfl ?_
  refine g_iloadN X0 hx hby d8_2 (pc' := 3) rfl rfl ?_
  refine Go.callP X0 hx hZ (y := (⟨"com/example/firstfail/firstfail/pairwise/Pairs", "bit", "(II)J"⟩ : MethodName)) hown (wi hw 34 rfl) (wi hw 35 rfl) (wi hw 6 rfl) (wi hw 36 rfl) (wi hw 7 rfl) (wi hw 37 rfl) (by decide) e0 (a := a1)  (argsL := [(.int i1), (.int i2)]) (rest := []) (W := 0) P0 (rm_bit l Z a0 hw a1 i1 i2 x1 x2 n1 g1 g2 k1 h0 n0 Z0 P1 P2 P3 P4 hlt hk hkn) (hb hby d8_3) (by rw [hml]; rfl) rfl pd1 rfl rfl (by decide) (by decide) (by decide) (by decide) ?_
  intro v1 T1 L1 X1 hQ1
  obtain ⟨rfl, Nq1, hh1⟩ := hQ1
  have N1 := Fr.app N0 Nq1
  refine Go.push (pc' := 6) rfl ?_
  generalize hv2 : (((g2 k1) + (i2.toInt64)) - ((g1 k1).toInt64)) = v2
  refine g_lstore X1 hx hby d8_6 (pc' := 8) rfl (L' := #[.val (.ref a1), .val (.int i1), .val (.int i2), .val (.ref y1), .val (.long v2), .second, .unset, .unset, .unset, .unset, .unset]) rfl ?_
  have hvb : v2.toInt = (be : Int) := by rw [← hv2]; exact hbe
  have hlen3 := P6.len
  refine g_iconst X1 hx hby d8_8 (pc' := 9) rfl (z := (0 : Int32)) rfl ?_
  refine g_istore X1 hx hby d8_9 (pc' := 11) rfl (L' := #[.val (.ref a1), .val (.int i1), .val (.int i2), .val (.ref y1), .val (.long v2), .second, .val (.int (0 : Int32)), .unset, .unset, .unset, .unset]) rfl ?_
  refine Go.loop (α := State × (List Loc) × Heap × Int64 × Int32 × Slot × Slot × Slot × Slot × (Nat → Int32) × Nat) (P := fun kq x => (fun (Tj11 : State) (Lj11 : List Loc) (hj11 : Heap) (bq : Int64) (dv : Int32) (s7 : Slot) (s8 : Slot) (s9 : Slot) (s10 : Slot) (gC : Nat → Int32) (kd : Nat) => Stand p l e ({ frames := 2, cells := 0, slots := 0, locals := 30 } : Room) s m #[(.ref a1), (.int i1), (.int i2), (.ref y1)] below meth c Tj11 Lj11 0 0 ∧ Tj11.heap = hj11 ∧ Fr n0 Lj11 ∧ n0 ≤ hj11.size ∧ Keep h0 hj11 [y1] ∧ Fld Z hj11 a1 "com/example/firstfail/firstfail/pairwise/Pairs" "covered" "[J" (.ref x3) ∧ ArF Z hj11 x3 .long n3 (fun i => .long (g3 i)) ∧ ArF Z hj11 y1 .int 130 (fun i => .int (gC i)) ∧ (bq.toInt = ((be + kd : Nat) : Int) ∧ dv.toInt = (kd : Int) ∧ kd ≤ 130 ∧ kq = 130 - kd ∧ One s7 ∧ One s8 ∧ own_two s9 s10 ∧ (∀ i, i < 130 → gC i = if i < kd then own_cnt gc g3 be i else gc i))) x.1 x.2.1 x.2.2.1 x.2.2.2.1 x.2.2.2.2.1 x.2.2.2.2.2.1 x.2.2.2.2.2.2.1 x.2.2.2.2.2.2.2.1 x.2.2.2.2.2.2.2.2.1 x.2.2.2.2.2.2.2.2.2.1 x.2.2.2.2.2.2.2.2.2.2) (F := fun x => (fun (Tj11 : State) (Lj11 : List Loc) (hj11 : Heap) (bq : Int64) (dv : Int32) (s7 : Slot) (s8 : Slot) (s9 : Slot) (s10 : Slot) (gC : Nat → Int32) (kd : Nat) => Tj11.setTop (mkF m 11 #[.val (.ref a1), .val (.int i1), .val (.int i2), .val (.ref y1), .val (.long bq), .second, .val (.int dv), s7, s8, s9, s10] [])) x.1 x.2.1 x.2.2.1 x.2.2.2.1 x.2.2.2.2.1 x.2.2.2.2.2.1 x.2.2.2.2.2.2.1 x.2.2.2.2.2.2.2.1 x.2.2.2.2.2.2.2.2.1 x.2.2.2.2.2.2.2.2.2.1 x.2.2.2.2.2.2.2.2.2.2) ?_ (130) (T1, _, h0, v2, (0 : Int32), .unset, .unset, .unset, .unset, gc, 0) ⟨X1.more (by decide) (by decide), hh1, N1, Z0, K0, P5, P6, P7, (show v2.toInt = ((be + 0 : Nat) : Int) ∧ (0 : Int32).toInt = (0 : Int) ∧ 0 ≤ 130 ∧ (130) = 130 - 0 ∧ One .unset ∧ One .unset ∧ own_two .unset .unset ∧ (∀ i, i < 130 → gc i = if i < 0 then own_cnt gc g3 be i else gc i) from ⟨by simpa using hvb, rfl, by omega, rfl, One.u, One.u, Or.inl ⟨rfl, rfl⟩, fun i hi => by rw [if_neg (by omega)]⟩)⟩
  rintro kq ⟨Tj11, Lj11, hj11, bq, dv, s7, s8, s9, s10, gC, kd⟩ hP11 IH11
  obtain ⟨Xj11, ej11, Nj11, zj11, Kj11, fj11_0, fj11_1, fj11_2, hJ11⟩ : Stand p l e ({ frames := 2, cells := 0, slots := 0, locals := 30 } : Room) s m #[(.ref a1), (.int i1), (.int i2), (.ref y1)] below meth c Tj11 Lj11 0 0 ∧ Tj11.heap = hj11 ∧ Fr n0 Lj11 ∧ n0 ≤ hj11.size ∧ Keep h0 hj11 [y1] ∧ Fld Z hj11 a1 "com/example/firstfail/firstfail/pairwise/Pairs" "covered" "[J" (.ref x3) ∧ ArF Z hj11 x3 .long n3 (fun i => .long (g3 i)) ∧ ArF Z hj11 y1 .int 130 (fun i => .int (gC i)) ∧ (bq.toInt = ((be + kd : Nat) : Int) ∧ dv.toInt = (kd : Int) ∧ kd ≤ 130 ∧ kq = 130 - kd ∧ One s7 ∧ One s8 ∧ own_two s9 s10 ∧ (∀ i, i < 130 → gC i = if i < kd then own_cnt gc g3 be i else gc i)) := hP11
  show Go p.tables e below s _ _ _ (Tj11.setTop (mkF m 11 #[.val (.ref a1), .val (.int i1), .val (.int i2), .val (.ref y1), .val (.long bq), .second, .val (.int dv), s7, s8, s9, s10] []))
  obtain ⟨hbq, hdv, hkd, hkq, ho7, ho8, ho9, hgC⟩ := hJ11
  refine g_iload Xj11 hx hby d8_11 (pc' := 13) rfl rfl ?_
  refine g_aloadN Xj11 hx hby d8_13 (pc' := 14) rfl rfl rfl ?_
  refine Go.alen Xj11 hx hZ ej11 fj11_2 (z := (130 : Int32)) rfl (hb hby d8_14) (pc' := 15) rfl ?_
  by_cases hc15 : dv.toInt < (130 : Int)
  · refine g_icmpNo Xj11 hx hby d8_15 (pc' := 18) (tlt (show dv < (130 : Int32) from Int32.lt_iff_toInt_lt.mpr hc15)).2.1 rfl ?_
    refine g_lload Xj11 hx hby d8_18 (pc' := 20) rfl rfl ?_
    refine g_ldcL Xj11 hx hby hZ hown (wi hw 19 rfl) d8_20 (pc' := 23) rfl ?_
    refine g_lrem Xj11 hx hby d8_23 (pc' := 24) rfl (by decide) rfl ?_
    refine g_l2i Xj11 hx hby d8_24 (pc' := 25) rfl rfl ?_
    generalize hv3 : ((bq % (64 : Int64)).toInt32) = v3
    have hsl4 : storeLocals #[.val (.ref a1), .val (.int i1), .val (.int i2), .val (.ref y1), .val (.long bq), .second, .val (.int dv), s7, s8, s9, s10] 7 (.int v3) = some #[.val (.ref a1), .val (.int i1), .val (.int i2), .val (.ref y1), .val (.long bq), .second, .val (.int dv), .val (.int v3), s8, s9, s10] := by
      rcases ho7 with rfl | ⟨w9, rfl, hw9⟩
      · rfl
      · cases w9 <;> first | rfl | (simp [Value.category] at hw9)
    refine g_istore Xj11 hx hby d8_25 (pc' := 27) rfl hsl4 ?_
    have ho : v3.toInt = (((be + kd) % 64 : Nat) : Int) := by
      rw [← hv3]
      have h0 : (bq % (64 : Int64)).toInt = bq.toInt % 64 := by rw [Int64.toInt_mod]; exact Int.tmod_eq_emod_of_nonneg (by omega)
      have h1 := c_l2i (bq % (64 : Int64))
      have h2 := rng32 ((bq % (64 : Int64)).toInt32)
      omega
    refine g_bipush Xj11 hx hby d8_27 (pc' := 29) rfl (z := (64 : Int32)) rfl ?_
    refine g_iload Xj11 hx hby d8_29 (pc' := 31) rfl rfl ?_
    refine g_isub Xj11 hx hby d8_31 (pc' := 32) rfl rfl ?_
    refine g_aloadN Xj11 hx hby d8_32 (pc' := 33) rfl rfl rfl ?_
    refine Go.alen Xj11 hx hZ ej11 fj11_2 (z := (130 : Int32)) rfl (hb hby d8_33) (pc' := 34) rfl ?_
    refine g_iload Xj11 hx hby d8_34 (pc' := 36) rfl rfl ?_
    refine g_isub Xj11 hx hby d8_36 (pc' := 37) rfl rfl ?_
    refine Go.callS Xj11 hx hZ hown (wi hw 38 rfl) (wi hw 39 rfl) (wi hw 40 rfl) (wi hw 41 rfl) (by decide) ej11 (argsL := [(.int ((64 : Int32) - v3)), (.int ((130 : Int32) - dv))]) (rest := []) (W := 0) (rm_minG l Z a0 hw ((64 : Int32) - v3) ((130 : Int32) - dv) hj11 n0 zj11 ) (hb hby d8_37) (by rw [hml]; rfl) rfl pd0 rfl rfl (by decide) (by decide) (by decide) (by decide) ?_
    intro v5 T5 L5 X5 hQ5
    obtain ⟨rfl, Nq5, hh5⟩ := hQ5
    have N5 := Fr.app Nj11 Nq5
    refine Go.push (pc' := 40) rfl ?_
    generalize hv6 : (own_min ((64 : Int32) - v3) ((130 : Int32) - dv)) = v6
    have hsl7 : storeLocals #[.val (.ref a1), .val (.int i1), .val (.int i2), .val (.ref y1), .val (.long bq), .second, .val (.int dv), .val (.int v3), s8, s9, s10] 8 (.int v6) = some #[.val (.ref a1), .val (.int i1), .val (.int i2), .val (.ref y1), .val (.long bq), .second, .val (.int dv), .val (.int v3), .val (.int v6), s9, s10] := by
      rcases ho8 with rfl | ⟨w9, rfl, hw9⟩
      · rfl
      · cases w9 <;> first | rfl | (simp [Value.category] at hw9)
    refine g_istore X5 hx hby d8_40 (pc' := 42) rfl hsl7 ?_
    obtain ⟨rn, hrn, hr1, hr2, hr3⟩ : ∃ rn : Nat, v6.toInt = (rn : Int) ∧ 1 ≤ rn ∧ rn ≤ 64 - (be + kd) % 64 ∧ rn ≤ 130 - kd := by
      have h1 := c_isub 64 v3
      have h2 := c_isub 130 dv
      have h3 := rng32 ((64 : Int32) - v3)
      have h4 := rng32 ((130 : Int32) - dv)
      have e1 : (64 : Int32).toInt = 64 := rfl
      have e2 : (130 : Int32).toInt = 130 := rfl
      rw [e1] at h1
      rw [e2] at h2
      refine ⟨v6.toInt.toNat, ?_, ?_, ?_, ?_⟩ <;> (rw [← hv6]; unfold own_min; split <;> omega)
    refine g_aloadN X5 hx hby d8_42 (pc' := 43) rfl rfl rfl ?_
    refine g_getf X5 hx hby hZ hown (host := "") (Or.inl (wi hw 21 rfl)) Via.refl hh5 fj11_0 d8_43 (pc' := 46) rfl ?_
    intro T8 X8 e8
    refine g_lload X8 hx hby d8_46 (pc' := 48) rfl rfl ?_
    refine g_ldcL X8 hx hby hZ hown (wi hw 19 rfl) d8_48 (pc' := 51) rfl ?_
    refine g_ldiv X8 hx hby d8_51 (pc' := 52) rfl (by decide) rfl ?_
    refine g_l2i X8 hx hby d8_52 (pc' := 53) rfl rfl ?_
    refine Go.laload X8 hx hZ e8 fj11_1 (k := ((be + kd) / 64)) (own_ix bq (be + kd) hbq (by omega)) (by omega) rfl (hb hby d8_53) (pc' := 54) rfl ?_
    refine g_ldcL X8 hx hby hZ hown (wi hw 50 rfl) d8_54 (pc' := 57) rfl ?_
    refine g_lxor X8 hx hby d8_57 (pc' := 58) rfl rfl ?_
    refine g_iload X8 hx hby d8_58 (pc' := 60) rfl rfl ?_
    refine g_lushr X8 hx hby d8_60 (pc' := 61) rfl rfl ?_
    generalize hv9 : ((((g3 ((be + kd) / 64)) ^^^ (-1 : Int64)).toUInt64 >>> (v3 &&& 0x3f).toInt64.toUInt64).toInt64) = v9
    have hsl10 : storeLocals #[.val (.ref a1), .val (.int i1), .val (.int i2), .val (.ref y1), .val (.long bq), .second, .val (.int dv), .val (.int v3), .val (.int v6), s9, s10] 9 (.long v9) = some #[.val (.ref a1), .val (.int i1), .val (.int i2), .val (.ref y1), .val (.long bq), .second, .val (.int dv), .val (.int v3), .val (.int v6), .val (.long v9), .second] := by
      rcases ho9 with ⟨rfl, rfl⟩ | ⟨w9, rfl, rfl⟩ <;> rfl
    refine g_lstore X8 hx hby d8_61 (pc' := 63) rfl hsl10 ?_
    have hU : ∀ j, v9.toBitVec.toNat.testBit j = (decide ((be + kd) % 64 + j < 64) && !(g3 ((be + kd) / 64)).toBitVec.toNat.testBit ((be + kd) % 64 + j)) := fun j => by
      rw [← hv9]
      exact own_unc _ v3 _ (Nat.mod_lt _ (by decide)) ho j
    refine Go.join (α := Int64) (P := fun x => (fun (uu : Int64) => ∀ j, uu.toBitVec.toNat.testBit j = (decide (j < rn) && !own_bit g3 (be + kd + j))) x) (F := fun x => (fun (uu : Int64) => T8.setTop (mkF m 81 #[.val (.ref a1), .val (.int i1), .val (.int i2), .val (.ref y1), .val (.long bq), .second, .val (.int dv), .val (.int v3), .val (.int v6), .val (.long uu), .second] [])) x) ?_ ?_
    · rintro uu hJ81
      show Go p.tables e below s _ _ _ (T8.setTop (mkF m 81 #[.val (.ref a1), .val (.int i1), .val (.int i2), .val (.ref y1), .val (.long bq), .second, .val (.int dv), .val (.int v3), .val (.int v6), .val (.long uu), .second] []))
      refine Go.loop (α := State × (List Loc) × Heap × Int64 × (Nat → Int32)) (P := fun kq x => (fun (Tj81w : State) (Lj81w : List Loc) (hj81w : Heap) (uv : Int64) (gD : Nat → Int32) => Stand p l e ({ frames := 2, cells := 0, slots := 0, locals := 30 } : Room) s m #[(.ref a1), (.int i1), (.int i2), (.ref y1)] below meth c Tj81w Lj81w 0 0 ∧ Tj81w.heap = hj81w ∧ Fr n0 Lj81w ∧ n0 ≤ hj81w.size ∧ Keep h0 hj81w [y1] ∧ Fld Z hj81w a1 "com/example/firstfail/firstfail/pairwise/Pairs" "covered" "[J" (.ref x3) ∧ ArF Z hj81w x3 .long n3 (fun i => .long (g3 i)) ∧ ArF Z hj81w y1 .int 130 (fun i => .int (gD i)) ∧ (kq = uv.toBitVec.toNat ∧ (∀ j, rn ≤ j → uv.toBitVec.toNat.testBit j = false) ∧ (∀ i, i < 130 → gD i + (if kd ≤ i ∧ uv.toBitVec.toNat.testBit (i - kd) = true then (1 : Int32) else 0) = if i < kd + rn then own_cnt gc g3 be i else gc i))) x.1 x.2.1 x.2.2.1 x.2.2.2.1 x.2.2.2.2) (F := fun x => (fun (Tj81w : State) (Lj81w : List Loc) (hj81w : Heap) (uv : Int64) (gD : Nat → Int32) => Tj81w.setTop (mkF m 81 #[.val (.ref a1), .val (.int i1), .val (.int i2), .val (.ref y1), .val (.long bq), .second, .val (.int dv), .val (.int v3), .val (.int v6), .val (.long uv), .second] [])) x.1 x.2.1 x.2.2.1 x.2.2.2.1 x.2.2.2.2) ?_ (uu.toBitVec.toNat) (T8, _, hj11, uu, gC) ⟨X8.more (by decide) (by decide), e8, N5, zj11, Kj11, fj11_0, fj11_1, fj11_2, (show (uu.toBitVec.toNat) = uu.toBitVec.toNat ∧ (∀ j, rn ≤ j → uu.toBitVec.toNat.testBit j = false) ∧ (∀ i, i < 130 → gC i + (if kd ≤ i ∧ uu.toBitVec.toNat.testBit (i - kd) = true then (1 : Int32) else 0) = if i < kd + rn then own_cnt gc g3 be i else gc i) from ⟨rfl, fun j hj => by rw [hJ81]; simp; omega, own_in0 gC gc g3 be kd rn uu hJ81 hgC⟩)⟩
      rintro kq ⟨Tj81w, Lj81w, hj81w, uv, gD⟩ hP81w IH81w
      obtain ⟨Xj81w, ej81w, Nj81w, zj81w, Kj81w, fj81w_0, fj81w_1, fj81w_2, hJ81w⟩ : Stand p l e ({ frames := 2, cells := 0, slots := 0, locals := 30 } : Room) s m #[(.ref a1), (.int i1), (.int i2), (.ref y1)] below meth c Tj81w Lj81w 0 0 ∧ Tj81w.heap = hj81w ∧ Fr n0 Lj81w ∧ n0 ≤ hj81w.size ∧ Keep h0 hj81w [y1] ∧ Fld Z hj81w a1 "com/example/firstfail/firstfail/pairwise/Pairs" "covered" "[J" (.ref x3) ∧ ArF Z hj81w x3 .long n3 (fun i => .long (g3 i)) ∧ ArF Z hj81w y1 .int 130 (fun i => .int (gD i)) ∧ (kq = uv.toBitVec.toNat ∧ (∀ j, rn ≤ j → uv.toBitVec.toNat.testBit j = false) ∧ (∀ i, i < 130 → gD i + (if kd ≤ i ∧ uv.toBitVec.toNat.testBit (i - kd) = true then (1 : Int32) else 0) = if i < kd + rn then own_cnt gc g3 be i else gc i)) := hP81w
      show Go p.tables e below s _ _ _ (Tj81w.setTop (mkF m 81 #[.val (.ref a1), .val (.int i1), .val (.int i2), .val (.ref y1), .val (.long bq), .second, .val (.int dv), .val (.int v3), .val (.int v6), .val (.long uv), .second] []))
      obtain ⟨hkq2, hub, hgD⟩ := hJ81w
      have hrest := hrn
      refine g_lload Xj81w hx hby d8_81 (pc' := 83) rfl rfl ?_
      refine Go.of (fun _ k => XS.lconst Xj81w.here hx rfl (hb hby d8_83) k) ?_
      show Go p.tables e below s _ _ _ (Tj81w.setTop (mkF m 84 #[.val (.ref a1), .val (.int i1), .val (.int i2), .val (.ref y1), .val (.long bq), .second, .val (.int dv), .val (.int v3), .val (.int v6), .val (.long uv), .second] [(.long (0 : Int64)), (.long uv)]))
      refine g_lcmp Xj81w hx hby d8_84 (pc' := 85) rfl  ?_
      by_cases hc85 : uv.toInt = (0 : Int)
      · refine g_ifYes Xj81w hx hby d8_85 (pc' := 114) (teq (show (lcmpW uv (0 : Int64)) = (0 : Int32) from (lw_eq uv (0 : Int64)).mpr (Int64.toInt_inj.mp hc85))).1 (by decide) (by decide) ?_
        have huz : uv.toBitVec.toNat = 0 := by
          have : uv.toBitVec = 0#64 := BitVec.toInt_inj.mp (by show uv.toInt = _; rw [hc85]; rfl)
          rw [this]; rfl
        have hfin : ∀ i, i < 130 → gD i = if i < kd + rn then own_cnt gc g3 be i else gc i := fun i hi => by
          have h := hgD i hi
          rw [huz] at h
          simpa using h
        refine g_iload Xj81w hx hby d8_114 (pc' := 116) rfl rfl ?_
        refine g_iload Xj81w hx hby d8_116 (pc' := 118) rfl rfl ?_
        refine g_iadd Xj81w hx hby d8_118 (pc' := 119) rfl rfl ?_
        generalize hv11 : (dv + v6) = v11
        refine g_istore Xj81w hx hby d8_119 (pc' := 121) rfl (L' := #[.val (.ref a1), .val (.int i1), .val (.int i2), .val (.ref y1), .val (.long bq), .second, .val (.int v11), .val (.int v3), .val (.int v6), .val (.long uv), .second]) rfl ?_
        refine g_lload Xj81w hx hby d8_121 (pc' := 123) rfl rfl ?_
        refine g_iload Xj81w hx hby d8_123 (pc' := 125) rfl rfl ?_
        refine g_i2l Xj81w hx hby d8_125 (pc' := 126) rfl rfl ?_
        refine g_ladd Xj81w hx hby d8_126 (pc' := 127) rfl rfl ?_
        generalize hv12 : (bq + (v6.toInt64)) = v12
        refine g_lstore Xj81w hx hby d8_127 (pc' := 129) rfl (L' := #[.val (.ref a1), .val (.int i1), .val (.int i2), .val (.ref y1), .val (.long v12), .second, .val (.int v11), .val (.int v3), .val (.int v6), .val (.long uv), .second]) rfl ?_
        refine g_goto Xj81w hx hby d8_129 (pc' := 11) (by decide) (by decide) ?_
        have hn6 : v11.toInt = ((kd + rn : Nat) : Int) := by rw [← hv11]; have : ((dv + v6).toInt - (dv.toInt + v6.toInt)) % 4294967296 = 0 := c_iadd _ _; have : -2147483648 ≤ (dv + v6).toInt ∧ (dv + v6).toInt < 2147483648 := rng32 _; have : -2147483648 ≤ dv.toInt ∧ dv.toInt < 2147483648 := rng32 _; have : -2147483648 ≤ v6.toInt ∧ v6.toInt < 2147483648 := rng32 _; omega
        have hn4 : v12.toInt = ((be + (kd + rn) : Nat) : Int) := by
          rw [← hv12]
          have h1 := c_ladd bq (v6.toInt64)
          have h2 := c_i2l v6
          have h3 := rng64 (bq + (v6.toInt64))
          omega
        exact IH11 (130 - (kd + rn)) (Tj81w, _, hj81w, v12, v11, (.val (.int v3)), (.val (.int v6)), (.val (.long uv)), .second, gD, (kd + rn)) (by omega) ⟨Xj81w.more (by decide) (by decide), ej81w, Nj81w, zj81w, Kj81w, fj81w_0, fj81w_1, fj81w_2, (show v12.toInt = ((be + (kd + rn) : Nat) : Int) ∧ v11.toInt = ((kd + rn) : Int) ∧ (kd + rn) ≤ 130 ∧ (130 - (kd + rn)) = 130 - (kd + rn) ∧ One (.val (.int v3)) ∧ One (.val (.int v6)) ∧ own_two (.val (.long uv)) .second ∧ (∀ i, i < 130 → gD i = if i < (kd + rn) then own_cnt gc g3 be i else gc i) from ⟨hn4, hn6, by omega, by omega, One.val rfl, One.val rfl, Or.inr ⟨_, rfl, rfl⟩, hfin⟩)⟩
      · refine g_ifNo Xj81w hx hby d8_85 (pc' := 88) (feq (show ¬ ((lcmpW uv (0 : Int64)) = (0 : Int32)) from fun q => hc85 (congrArg Int64.toInt ((lw_eq uv (0 : Int64)).mp q)))).1 rfl ?_
        have hnz : uv.toBitVec.toNat ≠ 0 := fun q => hc85 (by show uv.toBitVec.toInt = 0; rw [BitVec.eq_of_toNat_eq (x := uv.toBitVec) (y := 0#64) q]; rfl)
        obtain ⟨t, hlsb⟩ := own_lsb_ex _ hnz
        have ht64 : t < 64 := by
          rcases Nat.lt_or_ge t 64 with q | q
          · exact q
          · have := Nat.testBit_lt_two_pow (Nat.lt_of_lt_of_le uv.toBitVec.isLt (Nat.pow_le_pow_right (by decide : 0 < 2) q))
            rw [hlsb.1] at this; cases this
        have htr : t < rn := by
          rcases Nat.lt_or_ge t rn with q | q
          · exact q
          · have := hub t q
            rw [hlsb.1] at this; cases this
        refine g_aloadN Xj81w hx hby d8_88 (pc' := 89) rfl rfl rfl ?_
        refine g_iload Xj81w hx hby d8_89 (pc' := 91) rfl rfl ?_
        refine g_lload Xj81w hx hby d8_91 (pc' := 93) rfl rfl ?_
        refine Go.callS Xj81w hx hZ hown (wi hw 51 rfl) (wi hw 52 rfl) (wi hw 53 rfl) (wi hw 54 rfl) (by decide) ej81w (argsL := [(.long uv)]) (rest := [(.int dv), (.ref y1)]) (W := 2) (rm_ntzL l Z a0 hw uv hj81w n0 zj81w ) (hb hby d8_93) (by rw [hml]; rfl) rfl pd4 rfl rfl (by decide) (by decide) (by decide) (by decide) ?_
        intro v13 T13 L13 X13 hQ13
        obtain ⟨rfl, Nq13, hh13⟩ := hQ13
        have N13 := Fr.app Nj81w Nq13
        refine Go.push (pc' := 96) rfl ?_
        rw [own_ntz64 uv t ht64 hlsb]
        show Go p.tables e below s _ _ _ (T13.setTop (mkF m 96 #[.val (.ref a1), .val (.int i1), .val (.int i2), .val (.ref y1), .val (.long bq), .second, .val (.int dv), .val (.int v3), .val (.int v6), .val (.long uv), .second] [(.int (Int32.ofNat t)), (.int dv), (.ref y1)]))
        have hix : (dv + (Int32.ofNat t)).toInt = ((kd + t : Nat) : Int) := by
          have h1 := c_iadd dv (Int32.ofNat t)
          have h2 : (Int32.ofNat t).toInt = (t : Int) := Int32.toInt_ofNat_of_lt (by omega)
          have h3 := rng32 (dv + (Int32.ofNat t))
          omega
        refine g_iadd X13 hx hby d8_96 (pc' := 97) rfl rfl ?_
        refine g_dup2 X13 hx hby d8_97 (pc' := 98) rfl rfl rfl ?_
        refine Go.iaload X13 hx hZ hh13 fj81w_2 (k := (kd + t)) hix (by omega) rfl (hb hby d8_98) (pc' := 99) rfl ?_
        refine g_iconst X13 hx hby d8_99 (pc' := 100) rfl (z := (1 : Int32)) rfl ?_
        refine g_iadd X13 hx hby d8_100 (pc' := 101) rfl rfl ?_
        refine Go.iastore X13 hx hZ hh13 fj81w_2 (k := (kd + t)) hix (by omega) (hb hby d8_101) (pc' := 102) rfl ?_
        intro T14 h14 X14 e14 W14 V14
        refine g_lload X14 hx hby d8_102 (pc' := 104) rfl rfl ?_
        refine g_lload X14 hx hby d8_104 (pc' := 106) rfl rfl ?_
        refine Go.of (fun _ k => XS.lconst X14.here hx rfl (hb hby d8_106) k) ?_
        show Go p.tables e below s _ _ _ (T14.setTop (mkF m 107 #[.val (.ref a1), .val (.int i1), .val (.int i2), .val (.ref y1), .val (.long bq), .second, .val (.int dv), .val (.int v3), .val (.int v6), .val (.long uv), .second] [(.long (1 : Int64)), (.long uv), (.long uv)]))
        refine g_lsub X14 hx hby d8_107 (pc' := 108) rfl rfl ?_
        refine g_land X14 hx hby d8_108 (pc' := 109) rfl rfl ?_
        generalize hv15 : (uv &&& (uv - (1 : Int64))) = v15
        refine g_lstore X14 hx hby d8_109 (pc' := 111) rfl (L' := #[.val (.ref a1), .val (.int i1), .val (.int i2), .val (.ref y1), .val (.long bq), .second, .val (.int dv), .val (.int v3), .val (.int v6), .val (.long v15), .second]) rfl ?_
        refine g_goto X14 hx hby d8_111 (pc' := 81) (by decide) (by decide) ?_
        have hdec : v15.toBitVec.toNat < kq := by rw [hkq2, ← hv15]; exact own_dec uv hnz
        have f16 := (fj81w_0.other W14 (Or.inl (Ne.symm ne_y1_a1)))
        have f17 := (fj81w_1.other W14 (Ne.symm ne_y1_x3))
        have hdec : v15.toBitVec.toNat < kq := by rw [hkq2, ← hv15]; exact own_dec uv hnz
        exact IH81w (v15.toBitVec.toNat) (T14, _, h14, v15, (upI gD (kd + t) ((gD (kd + t)) + (1 : Int32)))) (by omega) ⟨X14.more (by decide) (by decide), e14, (Fr.snoc X14 N13 ge_y1), (Nat.le_trans zj81w (Nat.le_of_eq (Wr.size W14).symm)), (Kj81w.wr W14 (Or.inl (List.mem_of_getElem? (i := 0) rfl))), f16, f17, V14, (show (v15.toBitVec.toNat) = v15.toBitVec.toNat ∧ (∀ j, rn ≤ j → v15.toBitVec.toNat.testBit j = false) ∧ (∀ i, i < 130 → (upI gD (kd + t) ((gD (kd + t)) + (1 : Int32))) i + (if kd ≤ i ∧ v15.toBitVec.toNat.testBit (i - kd) = true then (1 : Int32) else 0) = if i < kd + rn then own_cnt gc g3 be i else gc i) from ⟨rfl, fun j hj => by rw [← hv15, own_off uv t ht64 hlsb j, hub j hj]; rfl, by rw [← hv15]; exact own_inS gD gc g3 be kd rn t uv ht64 hlsb hgD⟩)⟩
    intro J81
    refine g_iload X8 hx hby d8_63 (pc' := 65) rfl rfl ?_
    refine g_bipush X8 hx hby d8_65 (pc' := 67) rfl (z := (64 : Int32)) rfl ?_
    by_cases hc67 : v6.toInt < (64 : Int)
    · refine g_icmpNo X8 hx hby d8_67 (pc' := 70) (tlt (show v6 < (64 : Int32) from Int32.lt_iff_toInt_lt.mpr hc67)).2.1 rfl ?_
      refine g_lload X8 hx hby d8_70 (pc' := 72) rfl rfl ?_
      refine Go.of (fun _ k => XS.lconst X8.here hx rfl (hb hby d8_72) k) ?_
      show Go p.tables e below s _ _ _ (T8.setTop (mkF m 73 #[.val (.ref a1), .val (.int i1), .val (.int i2), .val (.ref y1), .val (.long bq), .second, .val (.int dv), .val (.int v3), .val (.int v6), .val (.long v9), .second] [(.long (1 : Int64)), (.long v9)]))
      refine g_iload X8 hx hby d8_73 (pc' := 75) rfl rfl ?_
      refine g_lshl X8 hx hby d8_75 (pc' := 76) rfl rfl ?_
      refine Go.of (fun _ k => XS.lconst X8.here hx rfl (hb hby d8_76) k) ?_
      show Go p.tables e below s _ _ _ (T8.setTop (mkF m 77 #[.val (.ref a1), .val (.int i1), .val (.int i2), .val (.ref y1), .val (.long bq), .second, .val (.int dv), .val (.int v3), .val (.int v6), .val (.long v9), .second] [(.long (1 : Int64)), (.long ((1 : Int64) <<< (v6 &&& 0x3f).toInt64)), (.long v9)]))
      refine g_lsub X8 hx hby d8_77 (pc' := 78) rfl rfl ?_
      refine g_land X8 hx hby d8_78 (pc' := 79) rfl rfl ?_
      generalize hv18 : (v9 &&& (((1 : Int64) <<< (v6 &&& 0x3f).toInt64) - (1 : Int64))) = v18
      refine g_lstore X8 hx hby d8_79 (pc' := 81) rfl (L' := #[.val (.ref a1), .val (.int i1), .val (.int i2), .val (.ref y1), .val (.long bq), .second, .val (.int dv), .val (.int v3), .val (.int v6), .val (.long v18), .second]) rfl ?_
      exact J81 (v18) ((by rw [← hv18]; exact own_bitsB g3 (be + kd) rn v9 v6 hU hrn (by omega) (by omega)))
    · refine g_icmpYes X8 hx hby d8_67 (pc' := 81) (flt (show ¬ (v6 < (64 : Int32)) from fun q => hc67 (Int32.lt_iff_toInt_lt.mp q))).2.1 (by decide) (by decide) ?_
      exact J81 (v9) (own_bitsA g3 (be + kd) rn v9 hU (by omega) (by omega))
  · refine g_icmpYes Xj11 hx hby d8_15 (pc' := 132) (flt (show ¬ (dv < (130 : Int32)) from fun q => hc15 (Int32.lt_iff_toInt_lt.mp q))).2.1 (by decide) (by decide) ?_
    refine Go.retV Xj11 hx hlk hret (hb hby d8_132) rfl (by decide) (by decide) ?_
    have VU : ArF Z hj11 y1 .int 130 (fun i => .int ((own_cnt gc g3 be) i)) := fj11_2.congr (fun i hi => congrArg Value.int (by rw [hgC i hi, if_pos (by omega)]))
    rw [ej11]
    exact ⟨rfl, Nj11, Kj11, VU⟩
theorem pd5 : parseMethodDescriptor "([I)V" = some ⟨[(.array .int)], none⟩ := by decide +kernel
theorem pd6 : parseMethodDescriptor "(II)V" = some ⟨[.int, .int], none⟩ := by decide +kernel
theorem pd7 : parseMethodDescriptor "(II[I)V" = some ⟨[.int, .int, (.array .int)], none⟩ := by decide +kernel
theorem pd8 : parseMethodDescriptor "(IIIIII)Z" = some ⟨[.int, .int, .int, .int, .int, .int], some .boolean⟩ := by decide +kernel
theorem ef_rm0 (m : MethodId) (x0 : Int64) (x1 : Int64) (x2 : Int32) (x3 : Int32) (x4 : Int32) : entryFrame m #[(.long x0), (.long x1), (.int x2), (.int x3), (.int x4)] maxLocals = mkF m 0 #[.val (.long x0), .second, .val (.long x1), .second, .val (.int x2), .val (.int x3), .val (.int x4), .unset, .unset, .unset, .unset, .unset, .unset, .unset, .unset, .unset, .unset, .unset, .unset, .unset, .unset, .unset, .unset] [] := by first | (simp [entryFrame, mkF, argsToLocals, Value.category, maxLocals]; done) | rfl
set_option maxRecDepth 65536 in
set_option maxHeartbeats 40000000 in
theorem rm0 (l : Launch) (Z : State) (a0 : Array Value) (hw : ∀ d ∈ tables_1, d.before a0 Z = true) (ws : List Jvm.Cond) (p1 p2 : Int64) (p3 p4 p5 : Int32) (h0 : Heap) (n0 : Nat) (Z0 : n0 ≤ h0.size)  :
    MetFree l x (head1 (Jvm.Cond.code x code maxLocals ret :: ws) room_1) (fun a U => a = #[(.long p1), (.long p2), (.int p3), (.int p4), (.int p5)] ∧ Z.Warmed39 U.vm ∧ U.heap = h0) (fun _ _ _ _ _ => True) (fun _ U o U' => ∃ v L, o = .returned v ∧ (fun v h L => v = some (.int 1) ∧ Fr n0 L) v U'.heap L ∧ FrameEnd U o U' L room_1.cells room_1.slots) := by
  refine meet (y := x) (Q := fun v h L => v = some (.int 1) ∧ Fr n0 L) (plainFor_of_name pn_com_example_firstfail_firstfail_pairwise_PairsCountUncoveredPinLaw) (fun m => ef_rm0 m p1 p2 p3 p4 p5) ?_
  intro p e s m below meth c T0 hx hby hml hZ hown hnm hret hlk X0 e0
  have N0 := Fr.nil n0
  have hml : c.maxLocals = 23 := hml
  refine g_iconst X0 hx hby at_0 (pc' := 1) rfl (z := (1 : Int32)) rfl ?_
  refine g_lloadN X0 hx hby at_1 (pc' := 2) rfl rfl ?_
  refine g_ldcL X0 hx hby hZ hown (wi hw 0 rfl) at_2 (pc' := 5) rfl ?_
  refine g_land X0 hx hby at_5 (pc' := 6) rfl rfl ?_
  refine g_l2i X0 hx hby at_6 (pc' := 7) rfl rfl ?_
  refine g_iadd X0 hx hby at_7 (pc' := 8) rfl rfl ?_
  generalize hv1 : ((1 : Int32) + ((p1 &&& (3 : Int64)).toInt32)) = v1
  refine g_istore X0 hx hby at_8 (pc' := 10) rfl (L' := #[.val (.long p1), .second, .val (.long p2), .second, .val (.int p3), .val (.int p4), .val (.int p5), .val (.int v1), .unset, .unset, .unset, .unset, .unset, .unset, .unset, .unset, .unset, .unset, .unset, .unset, .unset, .unset, .unset]) rfl ?_
  have hqw0n : 1 ≤ v1.toInt ∧ v1.toInt ≤ 4 := by
    rw [← hv1]
    have : (((1 : Int32) + ((p1 &&& (3 : Int64)).toInt32)).toInt - ((1) + ((p1 &&& (3 : Int64)).toInt32).toInt)) % 4294967296 = 0 := c_iadd _ _
    have : -2147483648 ≤ ((1 : Int32) + ((p1 &&& (3 : Int64)).toInt32)).toInt ∧ ((1 : Int32) + ((p1 &&& (3 : Int64)).toInt32)).toInt < 2147483648 := rng32 _
    have : (((p1 &&& (3 : Int64)).toInt32).toInt - (p1 &&& (3 : Int64)).toInt) % 4294967296 = 0 := c_l2i _
    have : -2147483648 ≤ ((p1 &&& (3 : Int64)).toInt32).toInt ∧ ((p1 &&& (3 : Int64)).toInt32).toInt < 2147483648 := rng32 _
    have : (p1 &&& (3 : Int64)).toInt = p1.toInt % 4 := c_maskL _ _ 2 (by decide) (by decide)
    have : -9223372036854775808 ≤ (p1 &&& (3 : Int64)).toInt ∧ (p1 &&& (3 : Int64)).toInt < 9223372036854775808 := rng64 _
    have : -9223372036854775808 ≤ p1.toInt ∧ p1.toInt < 9223372036854775808 := rng64 _
    omega
  obtain ⟨w0n, hw0n⟩ : ∃ n : Nat, v1.toInt = (n : Int) := ⟨v1.toInt.toNat, by omega⟩
  clear hv1
  refine g_sipush X0 hx hby at_10 (pc' := 13) rfl (z := (130 : Int32)) rfl ?_
  refine g_lloadN X0 hx hby at_13 (pc' := 14) rfl rfl ?_
  refine g_iconst X0 hx hby at_14 (pc' := 15) rfl (z := (2 : Int32)) rfl ?_
  refine g_lushr X0 hx hby at_15 (pc' := 16) rfl rfl ?_
  generalize hu2 : ((p1.toUInt64 >>> ((2 : Int32) &&& 0x3f).toInt64.toUInt64).toInt64) = u2
  refine g_ldcL X0 hx hby hZ hown (wi hw 1 rfl) at_16 (pc' := 19) rfl ?_
  refine g_land X0 hx hby at_19 (pc' := 20) rfl rfl ?_
  refine g_l2i X0 hx hby at_20 (pc' := 21) rfl rfl ?_
  refine g_iadd X0 hx hby at_21 (pc' := 22) rfl rfl ?_
  generalize hv3 : ((130 : Int32) + ((u2 &&& (63 : Int64)).toInt32)) = v3
  refine g_istore X0 hx hby at_22 (pc' := 24) rfl (L' := #[.val (.long p1), .second, .val (.long p2), .second, .val (.int p3), .val (.int p4), .val (.int p5), .val (.int v1), .val (.int v3), .unset, .unset, .unset, .unset, .unset, .unset, .unset, .unset, .unset, .unset, .unset, .unset, .unset, .unset]) rfl ?_
  have hqw1n : 130 ≤ v3.toInt ∧ v3.toInt ≤ 193 := by
    rw [← hv3]
    have : (((130 : Int32) + ((u2 &&& (63 : Int64)).toInt32)).toInt - ((130) + ((u2 &&& (63 : Int64)).toInt32).toInt)) % 4294967296 = 0 := c_iadd _ _
    have : -2147483648 ≤ ((130 : Int32) + ((u2 &&& (63 : Int64)).toInt32)).toInt ∧ ((130 : Int32) + ((u2 &&& (63 : Int64)).toInt32)).toInt < 2147483648 := rng32 _
    have : (((u2 &&& (63 : Int64)).toInt32).toInt - (u2 &&& (63 : Int64)).toInt) % 4294967296 = 0 := c_l2i _
    have : -2147483648 ≤ ((u2 &&& (63 : Int64)).toInt32).toInt ∧ ((u2 &&& (63 : Int64)).toInt32).toInt < 2147483648 := rng32 _
    have : (u2 &&& (63 : Int64)).toInt = u2.toInt % 64 := c_maskL _ _ 6 (by decide) (by decide)
    have : -9223372036854775808 ≤ (u2 &&& (63 : Int64)).toInt ∧ (u2 &&& (63 : Int64)).toInt < 9223372036854775808 := rng64 _
    have : -9223372036854775808 ≤ u2.toInt ∧ u2.toInt < 9223372036854775808 := rng64 _
    omega
  obtain ⟨w1n, hw1n⟩ : ∃ n : Nat, v3.toInt = (n : Int) := ⟨v3.toInt.toNat, by omega⟩
  clear hv3
  refine g_lloadN X0 hx hby at_24 (pc' := 25) rfl rfl ?_
  refine g_bipush X0 hx hby at_25 (pc' := 27) rfl (z := (8 : Int32)) rfl ?_
  refine g_lushr X0 hx hby at_27 (pc' := 28) rfl rfl ?_
  generalize hu4 : ((p1.toUInt64 >>> ((8 : Int32) &&& 0x3f).toInt64.toUInt64).toInt64) = u4
  refine g_ldcL X0 hx hby hZ hown (wi hw 0 rfl) at_28 (pc' := 31) rfl ?_
  refine g_land X0 hx hby at_31 (pc' := 32) rfl rfl ?_
  refine g_l2i X0 hx hby at_32 (pc' := 33) rfl rfl ?_
  refine g_iload X0 hx hby at_33 (pc' := 35) rfl rfl ?_
  refine g_irem X0 hx hby at_35 (pc' := 36) rfl (own_nz (by omega)) rfl ?_
  generalize hv5 : (((u4 &&& (3 : Int64)).toInt32) % v1) = v5
  refine g_istore X0 hx hby at_36 (pc' := 38) rfl (L' := #[.val (.long p1), .second, .val (.long p2), .second, .val (.int p3), .val (.int p4), .val (.int p5), .val (.int v1), .val (.int v3), .val (.int v5), .unset, .unset, .unset, .unset, .unset, .unset, .unset, .unset, .unset, .unset, .unset, .unset, .unset]) rfl ?_
  have hqan : 0 ≤ v5.toInt ∧ v5.toInt ≤ (w0n : Int) - 1 := by
    rw [← hv5]
    have : (0 ≤ ((u4 &&& (3 : Int64)).toInt32).toInt → 0 < v1.toInt → 0 ≤ (((u4 &&& (3 : Int64)).toInt32) % v1).toInt ∧ (((u4 &&& (3 : Int64)).toInt32) % v1).toInt < v1.toInt) := fun h1 h2 => ⟨((c_iremV _ _).1 h1 h2).1, ((c_iremV _ _).1 h1 h2).2.1⟩
    have : -2147483648 ≤ (((u4 &&& (3 : Int64)).toInt32) % v1).toInt ∧ (((u4 &&& (3 : Int64)).toInt32) % v1).toInt < 2147483648 := rng32 _
    have : (((u4 &&& (3 : Int64)).toInt32).toInt - (u4 &&& (3 : Int64)).toInt) % 4294967296 = 0 := c_l2i _
    have : -2147483648 ≤ ((u4 &&& (3 : Int64)).toInt32).toInt ∧ ((u4 &&& (3 : Int64)).toInt32).toInt < 2147483648 := rng32 _
    have : (u4 &&& (3 : Int64)).toInt = u4.toInt % 4 := c_maskL _ _ 2 (by decide) (by decide)
    have : -9223372036854775808 ≤ (u4 &&& (3 : Int64)).toInt ∧ (u4 &&& (3 : Int64)).toInt < 9223372036854775808 := rng64 _
    have : -9223372036854775808 ≤ u4.toInt ∧ u4.toInt < 9223372036854775808 := rng64 _
    have : -2147483648 ≤ v1.toInt ∧ v1.toInt < 2147483648 := rng32 _
    omega
  obtain ⟨an, han⟩ : ∃ n : Nat, v5.toInt = (n : Int) := ⟨v5.toInt.toNat, by omega⟩
  clear hv5
  refine g_iload X0 hx hby at_38 (pc' := 40) rfl rfl ?_
  refine g_lloadN X0 hx hby at_40 (pc' := 41) rfl rfl ?_
  refine g_bipush X0 hx hby at_41 (pc' := 43) rfl (z := (10 : Int32)) rfl ?_
  refine g_lushr X0 hx hby at_43 (pc' := 44) rfl rfl ?_
  generalize hu6 : ((p1.toUInt64 >>> ((10 : Int32) &&& 0x3f).toInt64.toUInt64).toInt64) = u6
  refine g_ldcL X0 hx hby hZ hown (wi hw 1 rfl) at_44 (pc' := 47) rfl ?_
  refine g_land X0 hx hby at_47 (pc' := 48) rfl rfl ?_
  refine g_l2i X0 hx hby at_48 (pc' := 49) rfl rfl ?_
  refine g_iload X0 hx hby at_49 (pc' := 51) rfl rfl ?_
  refine g_sipush X0 hx hby at_51 (pc' := 54) rfl (z := (129 : Int32)) rfl ?_
  refine g_isub X0 hx hby at_54 (pc' := 55) rfl rfl ?_
  refine g_irem X0 hx hby at_55 (pc' := 56) rfl (own_nz (by have : ((v3 - (129 : Int32)).toInt - (v3.toInt - (129))) % 4294967296 = 0 := c_isub _ _; have : -2147483648 ≤ (v3 - (129 : Int32)).toInt ∧ (v3 - (129 : Int32)).toInt < 2147483648 := rng32 _; have : -2147483648 ≤ v3.toInt ∧ v3.toInt < 2147483648 := rng32 _; omega)) rfl ?_
  refine g_iadd X0 hx hby at_56 (pc' := 57) rfl rfl ?_
  generalize hv7 : (v1 + (((u6 &&& (63 : Int64)).toInt32) % (v3 - (129 : Int32)))) = v7
  refine g_istore X0 hx hby at_57 (pc' := 59) rfl (L' := #[.val (.long p1), .second, .val (.long p2), .second, .val (.int p3), .val (.int p4), .val (.int p5), .val (.int v1), .val (.int v3), .val (.int v5), .val (.int v7), .unset, .unset, .unset, .unset, .unset, .unset, .unset, .unset, .unset, .unset, .unset, .unset]) rfl ?_
  have hqbn : (w0n : Int) ≤ v7.toInt ∧ v7.toInt ≤ (w0n : Int) + w1n - 130 := by
    rw [← hv7]
    have : ((v1 + (((u6 &&& (63 : Int64)).toInt32) % (v3 - (129 : Int32)))).toInt - (v1.toInt + (((u6 &&& (63 : Int64)).toInt32) % (v3 - (129 : Int32))).toInt)) % 4294967296 = 0 := c_iadd _ _
    have : -2147483648 ≤ (v1 + (((u6 &&& (63 : Int64)).toInt32) % (v3 - (129 : Int32)))).toInt ∧ (v1 + (((u6 &&& (63 : Int64)).toInt32) % (v3 - (129 : Int32)))).toInt < 2147483648 := rng32 _
    have : -2147483648 ≤ v1.toInt ∧ v1.toInt < 2147483648 := rng32 _
    have : (0 ≤ ((u6 &&& (63 : Int64)).toInt32).toInt → 0 < (v3 - (129 : Int32)).toInt → 0 ≤ (((u6 &&& (63 : Int64)).toInt32) % (v3 - (129 : Int32))).toInt ∧ (((u6 &&& (63 : Int64)).toInt32) % (v3 - (129 : Int32))).toInt < (v3 - (129 : Int32)).toInt) := fun h1 h2 => ⟨((c_iremV _ _).1 h1 h2).1, ((c_iremV _ _).1 h1 h2).2.1⟩
    have : -2147483648 ≤ (((u6 &&& (63 : Int64)).toInt32) % (v3 - (129 : Int32))).toInt ∧ (((u6 &&& (63 : Int64)).toInt32) % (v3 - (129 : Int32))).toInt < 2147483648 := rng32 _
    have : (((u6 &&& (63 : Int64)).toInt32).toInt - (u6 &&& (63 : Int64)).toInt) % 4294967296 = 0 := c_l2i _
    have : -2147483648 ≤ ((u6 &&& (63 : Int64)).toInt32).toInt ∧ ((u6 &&& (63 : Int64)).toInt32).toInt < 2147483648 := rng32 _
    have : (u6 &&& (63 : Int64)).toInt = u6.toInt % 64 := c_maskL _ _ 6 (by decide) (by decide)
    have : -9223372036854775808 ≤ (u6 &&& (63 : Int64)).toInt ∧ (u6 &&& (63 : Int64)).toInt < 9223372036854775808 := rng64 _
    have : -9223372036854775808 ≤ u6.toInt ∧ u6.toInt < 9223372036854775808 := rng64 _
    have : ((v3 - (129 : Int32)).toInt - (v3.toInt - (129))) % 4294967296 = 0 := c_isub _ _
    have : -2147483648 ≤ (v3 - (129 : Int32)).toInt ∧ (v3 - (129 : Int32)).toInt < 2147483648 := rng32 _
    have : -2147483648 ≤ v3.toInt ∧ v3.toInt < 2147483648 := rng32 _
    omega
  obtain ⟨bn, hbn⟩ : ∃ n : Nat, v7.toInt = (n : Int) := ⟨v7.toInt.toNat, by omega⟩
  clear hv7
  refine g_lloadN X0 hx hby at_59 (pc' := 60) rfl rfl ?_
  refine g_ldcL X0 hx hby hZ hown (wi hw 0 rfl) at_60 (pc' := 63) rfl ?_
  refine g_land X0 hx hby at_63 (pc' := 64) rfl rfl ?_
  refine g_l2i X0 hx hby at_64 (pc' := 65) rfl rfl ?_
  refine g_iload X0 hx hby at_65 (pc' := 67) rfl rfl ?_
  refine g_irem X0 hx hby at_67 (pc' := 68) rfl (own_nz (by omega)) rfl ?_
  generalize hv8 : (((p2 &&& (3 : Int64)).toInt32) % v1) = v8
  refine g_istore X0 hx hby at_68 (pc' := 70) rfl (L' := #[.val (.long p1), .second, .val (.long p2), .second, .val (.int p3), .val (.int p4), .val (.int p5), .val (.int v1), .val (.int v3), .val (.int v5), .val (.int v7), .val (.int v8), .unset, .unset, .unset, .unset, .unset, .unset, .unset, .unset, .unset, .unset, .unset]) rfl ?_
  have hqa1n : 0 ≤ v8.toInt ∧ v8.toInt ≤ (w0n : Int) - 1 := by
    rw [← hv8]
    have : (0 ≤ ((p2 &&& (3 : Int64)).toInt32).toInt → 0 < v1.toInt → 0 ≤ (((p2 &&& (3 : Int64)).toInt32) % v1).toInt ∧ (((p2 &&& (3 : Int64)).toInt32) % v1).toInt < v1.toInt) := fun h1 h2 => ⟨((c_iremV _ _).1 h1 h2).1, ((c_iremV _ _).1 h1 h2).2.1⟩
    have : -2147483648 ≤ (((p2 &&& (3 : Int64)).toInt32) % v1).toInt ∧ (((p2 &&& (3 : Int64)).toInt32) % v1).toInt < 2147483648 := rng32 _
    have : (((p2 &&& (3 : Int64)).toInt32).toInt - (p2 &&& (3 : Int64)).toInt) % 4294967296 = 0 := c_l2i _
    have : -2147483648 ≤ ((p2 &&& (3 : Int64)).toInt32).toInt ∧ ((p2 &&& (3 : Int64)).toInt32).toInt < 2147483648 := rng32 _
    have : (p2 &&& (3 : Int64)).toInt = p2.toInt % 4 := c_maskL _ _ 2 (by decide) (by decide)
    have : -9223372036854775808 ≤ (p2 &&& (3 : Int64)).toInt ∧ (p2 &&& (3 : Int64)).toInt < 9223372036854775808 := rng64 _
    have : -9223372036854775808 ≤ p2.toInt ∧ p2.toInt < 9223372036854775808 := rng64 _
    have : -2147483648 ≤ v1.toInt ∧ v1.toInt < 2147483648 := rng32 _
    omega
  obtain ⟨a1n, ha1n⟩ : ∃ n : Nat, v8.toInt = (n : Int) := ⟨v8.toInt.toNat, by omega⟩
  clear hv8
  refine g_iload X0 hx hby at_70 (pc' := 72) rfl rfl ?_
  refine g_lloadN X0 hx hby at_72 (pc' := 73) rfl rfl ?_
  refine g_iconst X0 hx hby at_73 (pc' := 74) rfl (z := (2 : Int32)) rfl ?_
  refine g_lushr X0 hx hby at_74 (pc' := 75) rfl rfl ?_
  generalize hu9 : ((p2.toUInt64 >>> ((2 : Int32) &&& 0x3f).toInt64.toUInt64).toInt64) = u9
  refine g_ldcL X0 hx hby hZ hown (wi hw 2 rfl) at_75 (pc' := 78) rfl ?_
  refine g_land X0 hx hby at_78 (pc' := 79) rfl rfl ?_
  refine g_l2i X0 hx hby at_79 (pc' := 80) rfl rfl ?_
  refine g_iload X0 hx hby at_80 (pc' := 82) rfl rfl ?_
  refine g_irem X0 hx hby at_82 (pc' := 83) rfl (own_nz (by omega)) rfl ?_
  refine g_iadd X0 hx hby at_83 (pc' := 84) rfl rfl ?_
  generalize hv10 : (v1 + (((u9 &&& (255 : Int64)).toInt32) % v3)) = v10
  refine g_istore X0 hx hby at_84 (pc' := 86) rfl (L' := #[.val (.long p1), .second, .val (.long p2), .second, .val (.int p3), .val (.int p4), .val (.int p5), .val (.int v1), .val (.int v3), .val (.int v5), .val (.int v7), .val (.int v8), .val (.int v10), .unset, .unset, .unset, .unset, .unset, .unset, .unset, .unset, .unset, .unset]) rfl ?_
  have hqb1n : (w0n : Int) ≤ v10.toInt ∧ v10.toInt ≤ (w0n : Int) + w1n - 1 := by
    rw [← hv10]
    have : ((v1 + (((u9 &&& (255 : Int64)).toInt32) % v3)).toInt - (v1.toInt + (((u9 &&& (255 : Int64)).toInt32) % v3).toInt)) % 4294967296 = 0 := c_iadd _ _
    have : -2147483648 ≤ (v1 + (((u9 &&& (255 : Int64)).toInt32) % v3)).toInt ∧ (v1 + (((u9 &&& (255 : Int64)).toInt32) % v3)).toInt < 2147483648 := rng32 _
    have : -2147483648 ≤ v1.toInt ∧ v1.toInt < 2147483648 := rng32 _
    have : (0 ≤ ((u9 &&& (255 : Int64)).toInt32).toInt → 0 < v3.toInt → 0 ≤ (((u9 &&& (255 : Int64)).toInt32) % v3).toInt ∧ (((u9 &&& (255 : Int64)).toInt32) % v3).toInt < v3.toInt) := fun h1 h2 => ⟨((c_iremV _ _).1 h1 h2).1, ((c_iremV _ _).1 h1 h2).2.1⟩
    have : -2147483648 ≤ (((u9 &&& (255 : Int64)).toInt32) % v3).toInt ∧ (((u9 &&& (255 : Int64)).toInt32) % v3).toInt < 2147483648 := rng32 _
    have : (((u9 &&& (255 : Int64)).toInt32).toInt - (u9 &&& (255 : Int64)).toInt) % 4294967296 = 0 := c_l2i _
    have : -2147483648 ≤ ((u9 &&& (255 : Int64)).toInt32).toInt ∧ ((u9 &&& (255 : Int64)).toInt32).toInt < 2147483648 := rng32 _
    have : (u9 &&& (255 : Int64)).toInt = u9.toInt % 256 := c_maskL _ _ 8 (by decide) (by decide)
    have : -9223372036854775808 ≤ (u9 &&& (255 : Int64)).toInt ∧ (u9 &&& (255 : Int64)).toInt < 9223372036854775808 := rng64 _
    have : -9223372036854775808 ≤ u9.toInt ∧ u9.toInt < 9223372036854775808 := rng64 _
    have : -2147483648 ≤ v3.toInt ∧ v3.toInt < 2147483648 := rng32 _
    omega
  obtain ⟨b1n, hb1n⟩ : ∃ n : Nat, v10.toInt = (n : Int) := ⟨v10.toInt.toNat, by omega⟩
  clear hv10
  refine g_lloadN X0 hx hby at_86 (pc' := 87) rfl rfl ?_
  refine g_bipush X0 hx hby at_87 (pc' := 89) rfl (z := (10 : Int32)) rfl ?_
  refine g_lushr X0 hx hby at_89 (pc' := 90) rfl rfl ?_
  generalize hu11 : ((p2.toUInt64 >>> ((10 : Int32) &&& 0x3f).toInt64.toUInt64).toInt64) = u11
  refine g_ldcL X0 hx hby hZ hown (wi hw 0 rfl) at_90 (pc' := 93) rfl ?_
  refine g_land X0 hx hby at_93 (pc' := 94) rfl rfl ?_
  refine g_l2i X0 hx hby at_94 (pc' := 95) rfl rfl ?_
  refine g_iload X0 hx hby at_95 (pc' := 97) rfl rfl ?_
  refine g_irem X0 hx hby at_97 (pc' := 98) rfl (own_nz (by omega)) rfl ?_
  generalize hv12 : (((u11 &&& (3 : Int64)).toInt32) % v1) = v12
  refine g_istore X0 hx hby at_98 (pc' := 100) rfl (L' := #[.val (.long p1), .second, .val (.long p2), .second, .val (.int p3), .val (.int p4), .val (.int p5), .val (.int v1), .val (.int v3), .val (.int v5), .val (.int v7), .val (.int v8), .val (.int v10), .val (.int v12), .unset, .unset, .unset, .unset, .unset, .unset, .unset, .unset, .unset]) rfl ?_
  have hqa2n : 0 ≤ v12.toInt ∧ v12.toInt ≤ (w0n : Int) - 1 := by
    rw [← hv12]
    have : (0 ≤ ((u11 &&& (3 : Int64)).toInt32).toInt → 0 < v1.toInt → 0 ≤ (((u11 &&& (3 : Int64)).toInt32) % v1).toInt ∧ (((u11 &&& (3 : Int64)).toInt32) % v1).toInt < v1.toInt) := fun h1 h2 => ⟨((c_iremV _ _).1 h1 h2).1, ((c_iremV _ _).1 h1 h2).2.1⟩
    have : -2147483648 ≤ (((u11 &&& (3 : Int64)).toInt32) % v1).toInt ∧ (((u11 &&& (3 : Int64)).toInt32) % v1).toInt < 2147483648 := rng32 _
    have : (((u11 &&& (3 : Int64)).toInt32).toInt - (u11 &&& (3 : Int64)).toInt) % 4294967296 = 0 := c_l2i _
    have : -2147483648 ≤ ((u11 &&& (3 : Int64)).toInt32).toInt ∧ ((u11 &&& (3 : Int64)).toInt32).toInt < 2147483648 := rng32 _
    have : (u11 &&& (3 : Int64)).toInt = u11.toInt % 4 := c_maskL _ _ 2 (by decide) (by decide)
    have : -9223372036854775808 ≤ (u11 &&& (3 : Int64)).toInt ∧ (u11 &&& (3 : Int64)).toInt < 9223372036854775808 := rng64 _
    have : -9223372036854775808 ≤ u11.toInt ∧ u11.toInt < 9223372036854775808 := rng64 _
    have : -2147483648 ≤ v1.toInt ∧ v1.toInt < 2147483648 := rng32 _
    omega
  obtain ⟨a2n, ha2n⟩ : ∃ n : Nat, v12.toInt = (n : Int) := ⟨v12.toInt.toNat, by omega⟩
  clear hv12
  refine g_iload X0 hx hby at_100 (pc' := 102) rfl rfl ?_
  refine g_lloadN X0 hx hby at_102 (pc' := 103) rfl rfl ?_
  refine g_bipush X0 hx hby at_103 (pc' := 105) rfl (z := (12 : Int32)) rfl ?_
  refine g_lushr X0 hx hby at_105 (pc' := 106) rfl rfl ?_
  generalize hu13 : ((p2.toUInt64 >>> ((12 : Int32) &&& 0x3f).toInt64.toUInt64).toInt64) = u13
  refine g_ldcL X0 hx hby hZ hown (wi hw 2 rfl) at_106 (pc' := 109) rfl ?_
  refine g_land X0 hx hby at_109 (pc' := 110) rfl rfl ?_
  refine g_l2i X0 hx hby at_110 (pc' := 111) rfl rfl ?_
  refine g_iload X0 hx hby at_111 (pc' := 113) rfl rfl ?_
  refine g_irem X0 hx hby at_113 (pc' := 114) rfl (own_nz (by omega)) rfl ?_
  refine g_iadd X0 hx hby at_114 (pc' := 115) rfl rfl ?_
  generalize hv14 : (v1 + (((u13 &&& (255 : Int64)).toInt32) % v3)) = v14
  refine g_istore X0 hx hby at_115 (pc' := 117) rfl (L' := #[.val (.long p1), .second, .val (.long p2), .second, .val (.int p3), .val (.int p4), .val (.int p5), .val (.int v1), .val (.int v3), .val (.int v5), .val (.int v7), .val (.int v8), .val (.int v10), .val (.int v12), .val (.int v14), .unset, .unset, .unset, .unset, .unset, .unset, .unset, .unset]) rfl ?_
  have hqb2n : (w0n : Int) ≤ v14.toInt ∧ v14.toInt ≤ (w0n : Int) + w1n - 1 := by
    rw [← hv14]
    have : ((v1 + (((u13 &&& (255 : Int64)).toInt32) % v3)).toInt - (v1.toInt + (((u13 &&& (255 : Int64)).toInt32) % v3).toInt)) % 4294967296 = 0 := c_iadd _ _
    have : -2147483648 ≤ (v1 + (((u13 &&& (255 : Int64)).toInt32) % v3)).toInt ∧ (v1 + (((u13 &&& (255 : Int64)).toInt32) % v3)).toInt < 2147483648 := rng32 _
    have : -2147483648 ≤ v1.toInt ∧ v1.toInt < 2147483648 := rng32 _
    have : (0 ≤ ((u13 &&& (255 : Int64)).toInt32).toInt → 0 < v3.toInt → 0 ≤ (((u13 &&& (255 : Int64)).toInt32) % v3).toInt ∧ (((u13 &&& (255 : Int64)).toInt32) % v3).toInt < v3.toInt) := fun h1 h2 => ⟨((c_iremV _ _).1 h1 h2).1, ((c_iremV _ _).1 h1 h2).2.1⟩
    have : -2147483648 ≤ (((u13 &&& (255 : Int64)).toInt32) % v3).toInt ∧ (((u13 &&& (255 : Int64)).toInt32) % v3).toInt < 2147483648 := rng32 _
    have : (((u13 &&& (255 : Int64)).toInt32).toInt - (u13 &&& (255 : Int64)).toInt) % 4294967296 = 0 := c_l2i _
    have : -2147483648 ≤ ((u13 &&& (255 : Int64)).toInt32).toInt ∧ ((u13 &&& (255 : Int64)).toInt32).toInt < 2147483648 := rng32 _
    have : (u13 &&& (255 : Int64)).toInt = u13.toInt % 256 := c_maskL _ _ 8 (by decide) (by decide)
    have : -9223372036854775808 ≤ (u13 &&& (255 : Int64)).toInt ∧ (u13 &&& (255 : Int64)).toInt < 9223372036854775808 := rng64 _
    have : -9223372036854775808 ≤ u13.toInt ∧ u13.toInt < 9223372036854775808 := rng64 _
    have : -2147483648 ≤ v3.toInt ∧ v3.toInt < 2147483648 := rng32 _
    omega
  obtain ⟨b2n, hb2n⟩ : ∃ n : Nat, v14.toInt = (n : Int) := ⟨v14.toInt.toNat, by omega⟩
  clear hv14
  refine g_iload X0 hx hby at_117 (pc' := 119) rfl rfl ?_
  refine g_ldcI X0 hx hby hZ hown (wi hw 3 rfl) at_119 (pc' := 121) rfl ?_
  refine g_iand X0 hx hby at_121 (pc' := 122) rfl rfl ?_
  refine g_sipush X0 hx hby at_122 (pc' := 125) rfl (z := (130 : Int32)) rfl ?_
  refine g_irem X0 hx hby at_125 (pc' := 126) rfl (by decide) rfl ?_
  generalize hv15 : ((p3 &&& (2147483647 : Int32)) % (130 : Int32)) = v15
  refine g_istore X0 hx hby at_126 (pc' := 128) rfl (L' := #[.val (.long p1), .second, .val (.long p2), .second, .val (.int p3), .val (.int p4), .val (.int p5), .val (.int v1), .val (.int v3), .val (.int v5), .val (.int v7), .val (.int v8), .val (.int v10), .val (.int v12), .val (.int v14), .val (.int v15), .unset, .unset, .unset, .unset, .unset, .unset, .unset]) rfl ?_
  have hqin_ : 0 ≤ v15.toInt ∧ v15.toInt ≤ 129 := by
    rw [← hv15]
    have : (0 ≤ (p3 &&& (2147483647 : Int32)).toInt → ((p3 &&& (2147483647 : Int32)) % (130 : Int32)).toInt = (p3 &&& (2147483647 : Int32)).toInt % 130) ∧ ((p3 &&& (2147483647 : Int32)).toInt < 0 → ((p3 &&& (2147483647 : Int32)) % (130 : Int32)).toInt = -((-(p3 &&& (2147483647 : Int32)).toInt) % 130)) := c_irem _ _ 130 rfl
    have : -2147483648 ≤ ((p3 &&& (2147483647 : Int32)) % (130 : Int32)).toInt ∧ ((p3 &&& (2147483647 : Int32)) % (130 : Int32)).toInt < 2147483648 := rng32 _
    have : (p3 &&& (2147483647 : Int32)).toInt = p3.toInt % 2147483648 := c_mask _ _ 31 (by decide) (by decide)
    have : -2147483648 ≤ (p3 &&& (2147483647 : Int32)).toInt ∧ (p3 &&& (2147483647 : Int32)).toInt < 2147483648 := rng32 _
    have : -2147483648 ≤ p3.toInt ∧ p3.toInt < 2147483648 := rng32 _
    omega
  obtain ⟨in_, hin_⟩ : ∃ n : Nat, v15.toInt = (n : Int) := ⟨v15.toInt.toNat, by omega⟩
  clear hv15
  refine g_iload X0 hx hby at_128 (pc' := 130) rfl rfl ?_
  refine g_ldcI X0 hx hby hZ hown (wi hw 3 rfl) at_130 (pc' := 132) rfl ?_
  refine g_iand X0 hx hby at_132 (pc' := 133) rfl rfl ?_
  refine g_sipush X0 hx hby at_133 (pc' := 136) rfl (z := (130 : Int32)) rfl ?_
  refine g_irem X0 hx hby at_136 (pc' := 137) rfl (by decide) rfl ?_
  generalize hv16 : ((p4 &&& (2147483647 : Int32)) % (130 : Int32)) = v16
  refine g_istore X0 hx hby at_137 (pc' := 139) rfl (L' := #[.val (.long p1), .second, .val (.long p2), .second, .val (.int p3), .val (.int p4), .val (.int p5), .val (.int v1), .val (.int v3), .val (.int v5), .val (.int v7), .val (.int v8), .val (.int v10), .val (.int v12), .val (.int v14), .val (.int v15), .val (.int v16), .unset, .unset, .unset, .unset, .unset, .unset]) rfl ?_
  have hqjn : 0 ≤ v16.toInt ∧ v16.toInt ≤ 129 := by
    rw [← hv16]
    have : (0 ≤ (p4 &&& (2147483647 : Int32)).toInt → ((p4 &&& (2147483647 : Int32)) % (130 : Int32)).toInt = (p4 &&& (2147483647 : Int32)).toInt % 130) ∧ ((p4 &&& (2147483647 : Int32)).toInt < 0 → ((p4 &&& (2147483647 : Int32)) % (130 : Int32)).toInt = -((-(p4 &&& (2147483647 : Int32)).toInt) % 130)) := c_irem _ _ 130 rfl
    have : -2147483648 ≤ ((p4 &&& (2147483647 : Int32)) % (130 : Int32)).toInt ∧ ((p4 &&& (2147483647 : Int32)) % (130 : Int32)).toInt < 2147483648 := rng32 _
    have : (p4 &&& (2147483647 : Int32)).toInt = p4.toInt % 2147483648 := c_mask _ _ 31 (by decide) (by decide)
    have : -2147483648 ≤ (p4 &&& (2147483647 : Int32)).toInt ∧ (p4 &&& (2147483647 : Int32)).toInt < 2147483648 := rng32 _
    have : -2147483648 ≤ p4.toInt ∧ p4.toInt < 2147483648 := rng32 _
    omega
  obtain ⟨jn, hjn⟩ : ∃ n : Nat, v16.toInt = (n : Int) := ⟨v16.toInt.toNat, by omega⟩
  clear hv16
  refine g_iconst X0 hx hby at_139 (pc' := 140) rfl (z := (2 : Int32)) rfl ?_
  refine Go.newarr X0 hx hZ (n := 2) (cap := 2) (ty := .int) rfl (wi hw 4 rfl) e0 (by decide) rfl (by decide) (by decide) (by decide) (by decide) (hb hby at_140) (pc' := 142) rfl ?_
  intro T17 h17 b17 X17 e17 E17 hb17 V17
  have g18 : n0 ≤ b17 := by rw [hb17]; exact Z0
  have V19 : ArF Z h17 b17 .int 2 (fun i => .int ((fun _ => (0 : Int32)) i)) := V17
  refine g_astore X17 hx hby at_142 (pc' := 144) rfl rfl (L' := #[.val (.long p1), .second, .val (.long p2), .second, .val (.int p3), .val (.int p4), .val (.int p5), .val (.int v1), .val (.int v3), .val (.int v5), .val (.int v7), .val (.int v8), .val (.int v10), .val (.int v12), .val (.int v14), .val (.int v15), .val (.int v16), .val (.ref b17), .unset, .unset, .unset, .unset, .unset]) rfl ?_
  refine g_aload X17 hx hby at_144 (pc' := 146) rfl rfl rfl ?_
  refine g_iconst X17 hx hby at_146 (pc' := 147) rfl (z := (0 : Int32)) rfl ?_
  refine g_iload X17 hx hby at_147 (pc' := 149) rfl rfl ?_
  refine Go.iastore X17 hx hZ e17 V19 (k := 0) rfl (by decide) (hb hby at_149) (pc' := 150) rfl ?_
  intro T20 h20 X20 e20 W20 V20
  refine g_aload X20 hx hby at_150 (pc' := 152) rfl rfl rfl ?_
  refine g_iconst X20 hx hby at_152 (pc' := 153) rfl (z := (1 : Int32)) rfl ?_
  refine g_iload X20 hx hby at_153 (pc' := 155) rfl rfl ?_
  refine Go.iastore X20 hx hZ e20 V20 (k := 1) rfl (by decide) (hb hby at_155) (pc' := 156) rfl ?_
  intro T21 h21 X21 e21 W21 V21
  refine g_new X21 hx hby hZ hown (wi hw 5 rfl) (wi hw 6 rfl) (wi hw 7 rfl) e21 at_156 (pc' := 159) rfl (by decide) (by decide) ?_
  intro T22 h22 b22 X22 e22 E22 hb22 A22 D22
  have g23 : n0 ≤ b22 := by rw [hb22]; exact (Nat.le_trans (Nat.le_trans (Nat.le_trans Z0 E17.1) (Nat.le_of_eq (Wr.size W20).symm)) (Nat.le_of_eq (Wr.size W21).symm))
  have F24 : Fld Z h22 b22 "com/example/firstfail/firstfail/pairwise/Pairs" "nextColumn" "[I" .null := D22 (Or.inr (wi hw 15 rfl)) (ty := (.array .int)) (by decide)
  have F25 : Fld Z h22 b22 "com/example/firstfail/firstfail/pairwise/Pairs" "rowStart" "[J" .null := D22 (Or.inr (wi hw 18 rfl)) (ty := (.array .long)) (by decide)
  have F26 : Fld Z h22 b22 "com/example/firstfail/firstfail/pairwise/Pairs" "covered" "[J" .null := D22 (Or.inr (wi hw 22 rfl)) (ty := (.array .long)) (by decide)
  have F27 : Fld Z h22 b22 "com/example/firstfail/firstfail/pairwise/Pairs" "forbidden" "[J" .null := D22 (Or.inr (wi hw 24 rfl)) (ty := (.array .long)) (by decide)
  refine g_dup X22 hx hby at_159 (pc' := 160) rfl rfl ?_
  refine g_aload X22 hx hby at_160 (pc' := 162) rfl rfl rfl ?_
  have f28 := V21.ext E22
  have hw0' : ((upI (upI (fun _ => (0 : Int32)) 0 v1) 1 v3) 0).toInt = (w0n : Int) := hw0n
  have hw1' : ((upI (upI (fun _ => (0 : Int32)) 0 v1) 1 v3) 1).toInt = (w1n : Int) := hw1n
  have ne30 : b17 ≠ b22 := Nat.ne_of_lt (by rw [hb22]; exact V21.lt)
  refine Go.callI X22 hx hZ hown rfl (wi hw 8 rfl) (wi hw 9 rfl) (wi hw 7 rfl) (wi hw 10 rfl) (by decide) e22 (a := b22) (argsL := [(.ref b17)]) (rest := [(.ref b22)]) (W := 1) (rm_ctor l Z a0 hw b22 b17 (upI (upI (fun _ => (0 : Int32)) 0 v1) 1 v3) w0n w1n h22 n0 (Nat.le_trans (Nat.le_trans (Nat.le_trans (Nat.le_trans Z0 E17.1) (Nat.le_of_eq (Wr.size W20).symm)) (Nat.le_of_eq (Wr.size W21).symm)) E22.1) A22 F24 F25 F26 F27 f28 ne30 g23 hw0' hw1' (by omega) (by omega)) (hb hby at_162) (by rw [hml]; rfl) rfl pd5 rfl rfl (by decide) (by decide) (by decide) (by decide) ?_
  intro v29 T29 L29 X29 hQ29
  obtain ⟨h29, e29⟩ : ∃ z, T29.heap = z := ⟨_, rfl⟩
  rw [e29] at hQ29
  obtain ⟨b1_29, b2_29, b3_29, gNx_29, gRx_29, rfl, Nq29, Kq29, gqb1_29, sqb1_29, gqb2_29, sqb2_29, gqb3_29, sqb3_29, nqb1_b2_29, nqb1_b3_29, nqb2_b3_29, Fq0_29, Fq1_29, Fq2_29, Fq3_29, Fq4_29, Fq5_29, hN_29, hR_29⟩ := hQ29
  have N29 := Fr.app (Fr.snoc X21 (Fr.snoc X20 N0 g18) g18) Nq29
  have z31 : n0 ≤ h29.size := (Nat.le_trans (Nat.le_trans (Nat.le_trans (Nat.le_trans (Nat.le_trans Z0 E17.1) (Nat.le_of_eq (Wr.size W20).symm)) (Nat.le_of_eq (Wr.size W21).symm)) E22.1) Kq29.1)
  refine Go.void (pc' := 165) rfl ?_
  refine g_astore X29 hx hby at_165 (pc' := 167) rfl rfl (L' := #[.val (.long p1), .second, .val (.long p2), .second, .val (.int p3), .val (.int p4), .val (.int p5), .val (.int v1), .val (.int v3), .val (.int v5), .val (.int v7), .val (.int v8), .val (.int v10), .val (.int v12), .val (.int v14), .val (.int v15), .val (.int v16), .val (.ref b17), .val (.ref b22), .unset, .unset, .unset, .unset]) rfl ?_
  obtain ⟨be0, ebe0⟩ : ∃ n : Nat, n = an * w1n + (bn - w0n) := ⟨_, rfl⟩
  have hbe0 : (((gRx_29 an) + (v7.toInt64)) - ((gNx_29 an).toInt64)).toInt = (be0 : Int) := by rw [ebe0]; exact own_be _ _ _ an w0n w1n bn (hR_29 an (by omega)) (hN_29 an (by omega)) hbn (by omega) (by omega) (by omega) (by omega)
  have hn_be0 : (be0 + 129) / 64 < (w0n * w1n + 63) / 64 := by rw [ebe0]; exact own_lt129 an w0n w1n _ (by omega) (by omega)
  obtain ⟨be1, ebe1⟩ : ∃ n : Nat, n = a1n * w1n + (b1n - w0n) := ⟨_, rfl⟩
  have hbe1 : (((gRx_29 a1n) + (v10.toInt64)) - ((gNx_29 a1n).toInt64)).toInt = (be1 : Int) := by rw [ebe1]; exact own_be _ _ _ a1n w0n w1n b1n (hR_29 a1n (by omega)) (hN_29 a1n (by omega)) hb1n (by omega) (by omega) (by omega) (by omega)
  have hn_be1 : be1 / 64 < (w0n * w1n + 63) / 64 := by rw [ebe1]; exact own_lt a1n w0n w1n _ (by omega) (by omega)
  obtain ⟨be2, ebe2⟩ : ∃ n : Nat, n = a2n * w1n + (b2n - w0n) := ⟨_, rfl⟩
  have hbe2 : (((gRx_29 a2n) + (v14.toInt64)) - ((gNx_29 a2n).toInt64)).toInt = (be2 : Int) := by rw [ebe2]; exact own_be _ _ _ a2n w0n w1n b2n (hR_29 a2n (by omega)) (hN_29 a2n (by omega)) hb2n (by omega) (by omega) (by omega) (by omega)
  have hn_be2 : be2 / 64 < (w0n * w1n + 63) / 64 := by rw [ebe2]; exact own_lt a2n w0n w1n _ (by omega) (by omega)
  refine g_aload X29 hx hby at_167 (pc' := 169) rfl rfl rfl ?_
  refine g_iload X29 hx hby at_169 (pc' := 171) rfl rfl ?_
  refine g_iload X29 hx hby at_171 (pc' := 173) rfl rfl ?_
  have f33 := A22.keep Kq29
  refine Go.callV X29 hx hZ hown (wi hw 25 rfl) (wi hw 26 rfl) (notFace_of_selects (args := #[]) (mvT hZ (wi hw 28 rfl))) (wi hw 28 rfl) (wi hw 27 rfl) (wi hw 7 rfl) (wi hw 29 rfl) (by decide) e29 (a := b22) (argsL := [(.int v8), (.int v10)]) (rest := []) (W := 0) f33 (rm_cover l Z a0 hw b22 v8 v10 b1_29 b2_29 (w0n + w1n) gNx_29 gRx_29 a1n b3_29 ((w0n * w1n + 63) / 64) (fun _ => (0 : Int64)) be1 h29 n0 z31 f33 Fq0_29 Fq1_29 Fq3_29 Fq4_29 Fq2_29 Fq5_29 gqb3_29 (by omega) ha1n (by omega) hbe1 hn_be1) (hb hby at_173) (by rw [hml]; rfl) rfl pd6 rfl rfl (by decide) (by decide) (by decide) (by decide) ?_
  intro v32 T32 L32 X32 hQ32
  obtain ⟨h32, e32⟩ : ∃ z, T32.heap = z := ⟨_, rfl⟩
  rw [e32] at hQ32
  obtain ⟨rfl, Nq32, Kq32, Fq0_32⟩ := hQ32
  have N32 := Fr.app N29 Nq32
  refine Go.void (pc' := 176) rfl ?_
  refine g_aload X32 hx hby at_176 (pc' := 178) rfl rfl rfl ?_
  refine g_iload X32 hx hby at_178 (pc' := 180) rfl rfl ?_
  refine g_iload X32 hx hby at_180 (pc' := 182) rfl rfl ?_
  have f35 := f33.keep Kq32
  have ne36 : b22 ≠ b3_29 := Nat.ne_of_lt (Nat.lt_of_lt_of_le F27.lt sqb3_29)
  have f37 := (Fq0_29.keep Kq32 (ninS ne36 nin0))
  have f38 := (Fq1_29.keep Kq32 (ninS ne36 nin0))
  have f39 := (Fq3_29.keep Kq32 (ninS nqb1_b3_29 nin0))
  have f40 := (Fq4_29.keep Kq32 (ninS nqb2_b3_29 nin0))
  have f41 := (Fq2_29.keep Kq32 (ninS ne36 nin0))
  refine Go.callV X32 hx hZ hown (wi hw 25 rfl) (wi hw 26 rfl) (notFace_of_selects (args := #[]) (mvT hZ (wi hw 28 rfl))) (wi hw 28 rfl) (wi hw 27 rfl) (wi hw 7 rfl) (wi hw 29 rfl) (by decide) e32 (a := b22) (argsL := [(.int v12), (.int v14)]) (rest := []) (W := 0) f35 (rm_cover l Z a0 hw b22 v12 v14 b1_29 b2_29 (w0n + w1n) gNx_29 gRx_29 a2n b3_29 ((w0n * w1n + 63) / 64) (own_set (fun _ => (0 : Int64)) be1) be2 h32 n0 (Nat.le_trans z31 Kq32.1) f35 f37 f38 f39 f40 f41 Fq0_32 gqb3_29 (by omega) ha2n (by omega) hbe2 hn_be2) (hb hby at_182) (by rw [hml]; rfl) rfl pd6 rfl rfl (by decide) (by decide) (by decide) (by decide) ?_
  intro v34 T34 L34 X34 hQ34
  obtain ⟨h34, e34⟩ : ∃ z, T34.heap = z := ⟨_, rfl⟩
  rw [e34] at hQ34
  obtain ⟨rfl, Nq34, Kq34, Fq0_34⟩ := hQ34
  have N34 := Fr.app N32 Nq34
  refine Go.void (pc' := 185) rfl ?_
  refine g_sipush X34 hx hby at_185 (pc' := 188) rfl (z := (130 : Int32)) rfl ?_
  refine Go.newarr X34 hx hZ (n := 130) (cap := 130) (ty := .int) rfl (wi hw 4 rfl) e34 (by decide) rfl (by decide) (by decide) (by decide) (by decide) (hb hby at_188) (pc' := 190) rfl ?_
  intro T42 h42 b42 X42 e42 E42 hb42 V42
  have g43 : n0 ≤ b42 := by rw [hb42]; exact (Nat.le_trans (Nat.le_trans z31 Kq32.1) Kq34.1)
  have V44 : ArF Z h42 b42 .int 130 (fun i => .int ((fun _ => (0 : Int32)) i)) := V42
  refine g_astore X42 hx hby at_190 (pc' := 192) rfl rfl (L' := #[.val (.long p1), .second, .val (.long p2), .second, .val (.int p3), .val (.int p4), .val (.int p5), .val (.int v1), .val (.int v3), .val (.int v5), .val (.int v7), .val (.int v8), .val (.int v10), .val (.int v12), .val (.int v14), .val (.int v15), .val (.int v16), .val (.ref b17), .val (.ref b22), .val (.ref b42), .unset, .unset, .unset]) rfl ?_
  refine g_aload X42 hx hby at_192 (pc' := 194) rfl rfl rfl ?_
  refine g_iload X42 hx hby at_194 (pc' := 196) rfl rfl ?_
  refine g_iload X42 hx hby at_196 (pc' := 198) rfl rfl ?_
  refine Go.iastore X42 hx hZ e42 V44 (k := in_) hin_ (by omega) (hb hby at_198) (pc' := 199) rfl ?_
  intro T45 h45 X45 e45 W45 V45
  refine g_aload X45 hx hby at_199 (pc' := 201) rfl rfl rfl ?_
  refine g_iload X45 hx hby at_201 (pc' := 203) rfl rfl ?_
  refine g_iload X45 hx hby at_203 (pc' := 205) rfl rfl ?_
  refine g_aload X45 hx hby at_205 (pc' := 207) rfl rfl rfl ?_
  have f47 := (((f35.keep Kq34).ext E42).wr W45)
  have ne48 : b22 ≠ b42 := Nat.ne_of_lt (by rw [hb42]; exact (f41.keep Kq34 (ninS ne36 nin0)).lt)
  have f49 := (((f37.keep Kq34 (ninS ne36 nin0)).ext E42).other W45 (Or.inl ne48))
  have f50 := (((f38.keep Kq34 (ninS ne36 nin0)).ext E42).other W45 (Or.inl ne48))
  have ne51 : b1_29 ≠ b42 := Nat.ne_of_lt (by rw [hb42]; exact (f39.keep Kq34 (ninS nqb1_b3_29 nin0)).lt)
  have f52 := (((f39.keep Kq34 (ninS nqb1_b3_29 nin0)).ext E42).other W45 ne51)
  have ne53 : b2_29 ≠ b42 := Nat.ne_of_lt (by rw [hb42]; exact (f40.keep Kq34 (ninS nqb2_b3_29 nin0)).lt)
  have f54 := (((f40.keep Kq34 (ninS nqb2_b3_29 nin0)).ext E42).other W45 ne53)
  have f55 := (((f41.keep Kq34 (ninS ne36 nin0)).ext E42).other W45 (Or.inl ne48))
  have ne56 : b3_29 ≠ b42 := Nat.ne_of_lt (by rw [hb42]; exact Fq0_34.lt)
  have f57 := ((Fq0_34.ext E42).other W45 ne56)
  refine Go.callV X45 hx hZ hown (wi hw 45 rfl) (wi hw 46 rfl) (notFace_of_selects (args := #[]) (mvT hZ (wi hw 48 rfl))) (wi hw 48 rfl) (wi hw 47 rfl) (wi hw 7 rfl) (wi hw 49 rfl) (by decide) e45 (a := b22) (argsL := [(.int v5), (.int v7), (.ref b42)]) (rest := []) (W := 0) f47 (rm_count l Z a0 hw b22 v5 v7 b42 b1_29 b2_29 (w0n + w1n) gNx_29 gRx_29 an b3_29 ((w0n * w1n + 63) / 64) (own_set (own_set (fun _ => (0 : Int64)) be1) be2) be0 (upI (fun _ => (0 : Int32)) in_ p5) h45 n0 (Nat.le_trans (Nat.le_trans (Nat.le_trans (Nat.le_trans z31 Kq32.1) Kq34.1) E42.1) (Nat.le_of_eq (Wr.size W45).symm)) f47 f49 f50 f52 f54 f55 f57 V45 (Ne.symm ne48) (Ne.symm ne51) (Ne.symm ne53) (Ne.symm ne56) g43 (by omega) han (by omega) hbe0 hn_be0) (hb hby at_207) (by rw [hml]; rfl) rfl pd7 rfl rfl (by decide) (by decide) (by decide) (by decide) ?_
  intro v46 T46 L46 X46 hQ46
  obtain ⟨h46, e46⟩ : ∃ z, T46.heap = z := ⟨_, rfl⟩
  rw [e46] at hQ46
  obtain ⟨rfl, Nq46, Kq46, Fq0_46⟩ := hQ46
  have N46 := Fr.app (Fr.snoc X45 N34 g43) Nq46
  refine Go.void (pc' := 210) rfl ?_
  have hun1 : own_un v5 (v7 + v15) v8 v10 v12 v14 = if be0 + in_ = be1 ∨ be0 + in_ = be2 then (0 : Int32) else 1 := by
    rw [ebe0, ebe1, ebe2]
    exact own_unk _ _ _ _ _ _ an bn a1n b1n a2n b2n w0n w1n in_ han (by have : ((v7 + v15).toInt - (v7.toInt + v15.toInt)) % 4294967296 = 0 := c_iadd _ _; have : -2147483648 ≤ (v7 + v15).toInt ∧ (v7 + v15).toInt < 2147483648 := rng32 _; have : -2147483648 ≤ v7.toInt ∧ v7.toInt < 2147483648 := rng32 _; have : -2147483648 ≤ v15.toInt ∧ v15.toInt < 2147483648 := rng32 _; omega) ha1n hb1n ha2n hb2n (by omega) (by omega) (by omega) (by omega) (by omega) (by omega)
  have hF1 := own_fin (upI (fun _ => (0 : Int32)) in_ p5) be0 be1 be2 in_ _ hun1
  have hun2 : own_un v5 (v7 + v16) v8 v10 v12 v14 = if be0 + jn = be1 ∨ be0 + jn = be2 then (0 : Int32) else 1 := by
    rw [ebe0, ebe1, ebe2]
    exact own_unk _ _ _ _ _ _ an bn a1n b1n a2n b2n w0n w1n jn han (by have : ((v7 + v16).toInt - (v7.toInt + v16.toInt)) % 4294967296 = 0 := c_iadd _ _; have : -2147483648 ≤ (v7 + v16).toInt ∧ (v7 + v16).toInt < 2147483648 := rng32 _; have : -2147483648 ≤ v7.toInt ∧ v7.toInt < 2147483648 := rng32 _; have : -2147483648 ≤ v16.toInt ∧ v16.toInt < 2147483648 := rng32 _; omega) ha1n hb1n ha2n hb2n (by omega) (by omega) (by omega) (by omega) (by omega) (by omega)
  have hF2 := own_fin (upI (fun _ => (0 : Int32)) in_ p5) be0 be1 be2 jn _ hun2
  clear hun1 hun2
  have hG1 : (upI (fun _ => (0 : Int32)) in_ p5) in_ = p5 := if_pos rfl
  refine g_iload X46 hx hby at_210 (pc' := 212) rfl rfl ?_
  refine g_iload X46 hx hby at_212 (pc' := 214) rfl rfl ?_
  refine g_iload X46 hx hby at_214 (pc' := 216) rfl rfl ?_
  refine g_iload X46 hx hby at_216 (pc' := 218) rfl rfl ?_
  refine g_iadd X46 hx hby at_218 (pc' := 219) rfl rfl ?_
  refine g_iload X46 hx hby at_219 (pc' := 221) rfl rfl ?_
  refine g_iload X46 hx hby at_221 (pc' := 223) rfl rfl ?_
  refine g_iload X46 hx hby at_223 (pc' := 225) rfl rfl ?_
  refine g_iload X46 hx hby at_225 (pc' := 227) rfl rfl ?_
  refine Go.callS X46 hx hZ hown (wi hw 60 rfl) (wi hw 61 rfl) (wi hw 62 rfl) (wi hw 63 rfl) (by decide) e46 (argsL := [(.int v5), (.int (v7 + v15)), (.int v8), (.int v10), (.int v12), (.int v14)]) (rest := [(.int p5)]) (W := 1) (rm_un l Z a0 hw v5 (v7 + v15) v8 v10 v12 v14 h46 n0 (Nat.le_trans (Nat.le_trans (Nat.le_trans (Nat.le_trans (Nat.le_trans z31 Kq32.1) Kq34.1) E42.1) (Nat.le_of_eq (Wr.size W45).symm)) Kq46.1) ) (hb hby at_227) (by rw [hml]; rfl) rfl pd8 rfl rfl (by decide) (by decide) (by decide) (by decide) ?_
  intro v58 T58 L58 X58 hQ58
  obtain ⟨rfl, Nq58, hh58⟩ := hQ58
  have N58 := Fr.app N46 Nq58
  refine Go.push (pc' := 230) rfl ?_
  by_cases hc230 : (own_un v5 (v7 + v15) v8 v10 v12 v14).toInt = (0 : Int)
  · refine g_ifYes X58 hx hby at_230 (pc' := 237) (teq (show (own_un v5 (v7 + v15) v8 v10 v12 v14) = (0 : Int32) from Int32.toInt_inj.mp hc230)).1 (by decide) (by decide) ?_
    refine g_iconst X58 hx hby at_237 (pc' := 238) rfl (z := (0 : Int32)) rfl ?_
    refine g_iadd X58 hx hby at_238 (pc' := 239) rfl rfl ?_
    generalize hv59 : (p5 + (0 : Int32)) = v59
    refine g_istore X58 hx hby at_239 (pc' := 241) rfl (L' := #[.val (.long p1), .second, .val (.long p2), .second, .val (.int p3), .val (.int p4), .val (.int p5), .val (.int v1), .val (.int v3), .val (.int v5), .val (.int v7), .val (.int v8), .val (.int v10), .val (.int v12), .val (.int v14), .val (.int v15), .val (.int v16), .val (.ref b17), .val (.ref b22), .val (.ref b42), .val (.int v59), .unset, .unset]) rfl ?_
    refine g_iload X58 hx hby at_241 (pc' := 243) rfl rfl ?_
    refine g_iload X58 hx hby at_243 (pc' := 245) rfl rfl ?_
    by_cases hc245 : v16.toInt = v15.toInt
    · refine g_icmpNo X58 hx hby at_245 (pc' := 248) (teq (show v16 = v15 from Int32.toInt_inj.mp hc245)).2 rfl ?_
      refine g_iload X58 hx hby at_248 (pc' := 250) rfl rfl ?_
      refine g_goto X58 hx hby at_250 (pc' := 254) (by decide) (by decide) ?_
      refine g_istore X58 hx hby at_254 (pc' := 256) rfl (L' := #[.val (.long p1), .second, .val (.long p2), .second, .val (.int p3), .val (.int p4), .val (.int p5), .val (.int v1), .val (.int v3), .val (.int v5), .val (.int v7), .val (.int v8), .val (.int v10), .val (.int v12), .val (.int v14), .val (.int v15), .val (.int v16), .val (.ref b17), .val (.ref b22), .val (.ref b42), .val (.int v59), .val (.int p5), .unset]) rfl ?_
      refine g_iload X58 hx hby at_256 (pc' := 258) rfl rfl ?_
      refine g_iload X58 hx hby at_258 (pc' := 260) rfl rfl ?_
      refine g_iload X58 hx hby at_260 (pc' := 262) rfl rfl ?_
      refine g_iload X58 hx hby at_262 (pc' := 264) rfl rfl ?_
      refine g_iadd X58 hx hby at_264 (pc' := 265) rfl rfl ?_
      refine g_iload X58 hx hby at_265 (pc' := 267) rfl rfl ?_
      refine g_iload X58 hx hby at_267 (pc' := 269) rfl rfl ?_
      refine g_iload X58 hx hby at_269 (pc' := 271) rfl rfl ?_
      refine g_iload X58 hx hby at_271 (pc' := 273) rfl rfl ?_
      refine Go.callS X58 hx hZ hown (wi hw 60 rfl) (wi hw 61 rfl) (wi hw 62 rfl) (wi hw 63 rfl) (by decide) hh58 (argsL := [(.int v5), (.int (v7 + v16)), (.int v8), (.int v10), (.int v12), (.int v14)]) (rest := [(.int p5)]) (W := 1) (rm_un l Z a0 hw v5 (v7 + v16) v8 v10 v12 v14 h46 n0 (Nat.le_trans (Nat.le_trans (Nat.le_trans (Nat.le_trans (Nat.le_trans z31 Kq32.1) Kq34.1) E42.1) (Nat.le_of_eq (Wr.size W45).symm)) Kq46.1) ) (hb hby at_273) (by rw [hml]; rfl) rfl pd8 rfl rfl (by decide) (by decide) (by decide) (by decide) ?_
      intro v60 T60 L60 X60 hQ60
      obtain ⟨rfl, Nq60, hh60⟩ := hQ60
      have N60 := Fr.app N58 Nq60
      refine Go.push (pc' := 276) rfl ?_
      by_cases hc276 : (own_un v5 (v7 + v16) v8 v10 v12 v14).toInt = (0 : Int)
      · refine g_ifYes X60 hx hby at_276 (pc' := 283) (teq (show (own_un v5 (v7 + v16) v8 v10 v12 v14) = (0 : Int32) from Int32.toInt_inj.mp hc276)).1 (by decide) (by decide) ?_
        refine g_iconst X60 hx hby at_283 (pc' := 284) rfl (z := (0 : Int32)) rfl ?_
        refine g_iadd X60 hx hby at_284 (pc' := 285) rfl rfl ?_
        generalize hv61 : (p5 + (0 : Int32)) = v61
        refine g_istore X60 hx hby at_285 (pc' := 287) rfl (L' := #[.val (.long p1), .second, .val (.long p2), .second, .val (.int p3), .val (.int p4), .val (.int p5), .val (.int v1), .val (.int v3), .val (.int v5), .val (.int v7), .val (.int v8), .val (.int v10), .val (.int v12), .val (.int v14), .val (.int v15), .val (.int v16), .val (.ref b17), .val (.ref b22), .val (.ref b42), .val (.int v59), .val (.int p5), .val (.int v61)]) rfl ?_
        refine g_aload X60 hx hby at_287 (pc' := 289) rfl rfl rfl ?_
        refine g_iload X60 hx hby at_289 (pc' := 291) rfl rfl ?_
        refine Go.iaload X60 hx hZ hh60 Fq0_46 (k := in_) hin_ (by omega) rfl (hb hby at_291) (pc' := 292) rfl ?_
        refine g_iload X60 hx hby at_292 (pc' := 294) rfl rfl ?_
        have hc294 : ((own_cnt (upI (fun _ => (0 : Int32)) in_ p5) (own_set (own_set (fun _ => (0 : Int64)) be1) be2) be0) in_).toInt = v59.toInt := by rw [hF1, hG1, own_un0 hc230, hv59]
        refine g_icmpNo X60 hx hby at_294 (pc' := 297) (teq (show ((own_cnt (upI (fun _ => (0 : Int32)) in_ p5) (own_set (own_set (fun _ => (0 : Int64)) be1) be2) be0) in_) = v59 from Int32.toInt_inj.mp hc294)).2 rfl ?_
        refine g_aload X60 hx hby at_297 (pc' := 299) rfl rfl rfl ?_
        refine g_iload X60 hx hby at_299 (pc' := 301) rfl rfl ?_
        refine Go.iaload X60 hx hZ hh60 Fq0_46 (k := jn) hjn (by omega) rfl (hb hby at_301) (pc' := 302) rfl ?_
        refine g_iload X60 hx hby at_302 (pc' := 304) rfl rfl ?_
        have hc304 : ((own_cnt (upI (fun _ => (0 : Int32)) in_ p5) (own_set (own_set (fun _ => (0 : Int64)) be1) be2) be0) jn).toInt = v61.toInt := by rw [hF2, (show (upI (fun _ => (0 : Int32)) in_ p5) jn = p5 from if_pos (by omega)), own_un0 hc276, hv61]
        refine g_icmpNo X60 hx hby at_304 (pc' := 307) (teq (show ((own_cnt (upI (fun _ => (0 : Int32)) in_ p5) (own_set (own_set (fun _ => (0 : Int64)) be1) be2) be0) jn) = v61 from Int32.toInt_inj.mp hc304)).2 rfl ?_
        refine g_iconst X60 hx hby at_307 (pc' := 308) rfl (z := (1 : Int32)) rfl ?_
        refine g_goto X60 hx hby at_308 (pc' := 312) (by decide) (by decide) ?_
        refine Go.retZ X60 hx hlk hret (by simp) (hb hby at_312) (by decide) (by decide) ?_
        exact ⟨rfl, N60⟩
      · refine g_ifNo X60 hx hby at_276 (pc' := 279) (feq (show ¬ ((own_un v5 (v7 + v16) v8 v10 v12 v14) = (0 : Int32)) from fun q => hc276 (congrArg Int32.toInt q))).1 rfl ?_
        refine g_iconst X60 hx hby at_279 (pc' := 280) rfl (z := (1 : Int32)) rfl ?_
        refine g_goto X60 hx hby at_280 (pc' := 284) (by decide) (by decide) ?_
        refine g_iadd X60 hx hby at_284 (pc' := 285) rfl rfl ?_
        generalize hv62 : (p5 + (1 : Int32)) = v62
        refine g_istore X60 hx hby at_285 (pc' := 287) rfl (L' := #[.val (.long p1), .second, .val (.long p2), .second, .val (.int p3), .val (.int p4), .val (.int p5), .val (.int v1), .val (.int v3), .val (.int v5), .val (.int v7), .val (.int v8), .val (.int v10), .val (.int v12), .val (.int v14), .val (.int v15), .val (.int v16), .val (.ref b17), .val (.ref b22), .val (.ref b42), .val (.int v59), .val (.int p5), .val (.int v62)]) rfl ?_
        refine g_aload X60 hx hby at_287 (pc' := 289) rfl rfl rfl ?_
        refine g_iload X60 hx hby at_289 (pc' := 291) rfl rfl ?_
        refine Go.iaload X60 hx hZ hh60 Fq0_46 (k := in_) hin_ (by omega) rfl (hb hby at_291) (pc' := 292) rfl ?_
        refine g_iload X60 hx hby at_292 (pc' := 294) rfl rfl ?_
        have hc294 : ((own_cnt (upI (fun _ => (0 : Int32)) in_ p5) (own_set (own_set (fun _ => (0 : Int64)) be1) be2) be0) in_).toInt = v59.toInt := by rw [hF1, hG1, own_un0 hc230, hv59]
        refine g_icmpNo X60 hx hby at_294 (pc' := 297) (teq (show ((own_cnt (upI (fun _ => (0 : Int32)) in_ p5) (own_set (own_set (fun _ => (0 : Int64)) be1) be2) be0) in_) = v59 from Int32.toInt_inj.mp hc294)).2 rfl ?_
        refine g_aload X60 hx hby at_297 (pc' := 299) rfl rfl rfl ?_
        refine g_iload X60 hx hby at_299 (pc' := 301) rfl rfl ?_
        refine Go.iaload X60 hx hZ hh60 Fq0_46 (k := jn) hjn (by omega) rfl (hb hby at_301) (pc' := 302) rfl ?_
        refine g_iload X60 hx hby at_302 (pc' := 304) rfl rfl ?_
        have hc304 : ((own_cnt (upI (fun _ => (0 : Int32)) in_ p5) (own_set (own_set (fun _ => (0 : Int64)) be1) be2) be0) jn).toInt = v62.toInt := by rw [hF2, (show (upI (fun _ => (0 : Int32)) in_ p5) jn = p5 from if_pos (by omega)), own_un1 hc276, hv62]
        refine g_icmpNo X60 hx hby at_304 (pc' := 307) (teq (show ((own_cnt (upI (fun _ => (0 : Int32)) in_ p5) (own_set (own_set (fun _ => (0 : Int64)) be1) be2) be0) jn) = v62 from Int32.toInt_inj.mp hc304)).2 rfl ?_
        refine g_iconst X60 hx hby at_307 (pc' := 308) rfl (z := (1 : Int32)) rfl ?_
        refine g_goto X60 hx hby at_308 (pc' := 312) (by decide) (by decide) ?_
        refine Go.retZ X60 hx hlk hret (by simp) (hb hby at_312) (by decide) (by decide) ?_
        exact ⟨rfl, N60⟩
    · refine g_icmpYes X58 hx hby at_245 (pc' := 253) (feq (show ¬ (v16 = v15) from fun q => hc245 (congrArg Int32.toInt q))).2 (by decide) (by decide) ?_
      refine g_iconst X58 hx hby at_253 (pc' := 254) rfl (z := (0 : Int32)) rfl ?_
      refine g_istore X58 hx hby at_254 (pc' := 256) rfl (L' := #[.val (.long p1), .second, .val (.long p2), .second, .val (.int p3), .val (.int p4), .val (.int p5), .val (.int v1), .val (.int v3), .val (.int v5), .val (.int v7), .val (.int v8), .val (.int v10), .val (.int v12), .val (.int v14), .val (.int v15), .val (.int v16), .val (.ref b17), .val (.ref b22), .val (.ref b42), .val (.int v59), .val (.int (0 : Int32)), .unset]) rfl ?_
      refine g_iload X58 hx hby at_256 (pc' := 258) rfl rfl ?_
      refine g_iload X58 hx hby at_258 (pc' := 260) rfl rfl ?_
      refine g_iload X58 hx hby at_260 (pc' := 262) rfl rfl ?_
      refine g_iload X58 hx hby at_262 (pc' := 264) rfl rfl ?_
      refine g_iadd X58 hx hby at_264 (pc' := 265) rfl rfl ?_
      refine g_iload X58 hx hby at_265 (pc' := 267) rfl rfl ?_
      refine g_iload X58 hx hby at_267 (pc' := 269) rfl rfl ?_
      refine g_iload X58 hx hby at_269 (pc' := 271) rfl rfl ?_
      refine g_iload X58 hx hby at_271 (pc' := 273) rfl rfl ?_
      refine Go.callS X58 hx hZ hown (wi hw 60 rfl) (wi hw 61 rfl) (wi hw 62 rfl) (wi hw 63 rfl) (by decide) hh58 (argsL := [(.int v5), (.int (v7 + v16)), (.int v8), (.int v10), (.int v12), (.int v14)]) (rest := [(.int (0 : Int32))]) (W := 1) (rm_un l Z a0 hw v5 (v7 + v16) v8 v10 v12 v14 h46 n0 (Nat.le_trans (Nat.le_trans (Nat.le_trans (Nat.le_trans (Nat.le_trans z31 Kq32.1) Kq34.1) E42.1) (Nat.le_of_eq (Wr.size W45).symm)) Kq46.1) ) (hb hby at_273) (by rw [hml]; rfl) rfl pd8 rfl rfl (by decide) (by decide) (by decide) (by decide) ?_
      intro v63 T63 L63 X63 hQ63
      obtain ⟨rfl, Nq63, hh63⟩ := hQ63
      have N63 := Fr.app N58 Nq63
      refine Go.push (pc' := 276) rfl ?_
      by_cases hc276 : (own_un v5 (v7 + v16) v8 v10 v12 v14).toInt = (0 : Int)
      · refine g_ifYes X63 hx hby at_276 (pc' := 283) (teq (show (own_un v5 (v7 + v16) v8 v10 v12 v14) = (0 : Int32) from Int32.toInt_inj.mp hc276)).1 (by decide) (by decide) ?_
        refine g_iconst X63 hx hby at_283 (pc' := 284) rfl (z := (0 : Int32)) rfl ?_
        refine g_iadd X63 hx hby at_284 (pc' := 285) rfl (z := (0 : Int32)) rfl ?_
        refine g_istore X63 hx hby at_285 (pc' := 287) rfl (L' := #[.val (.long p1), .second, .val (.long p2), .second, .val (.int p3), .val (.int p4), .val (.int p5), .val (.int v1), .val (.int v3), .val (.int v5), .val (.int v7), .val (.int v8), .val (.int v10), .val (.int v12), .val (.int v14), .val (.int v15), .val (.int v16), .val (.ref b17), .val (.ref b22), .val (.ref b42), .val (.int v59), .val (.int (0 : Int32)), .val (.int (0 : Int32))]) rfl ?_
        refine g_aload X63 hx hby at_287 (pc' := 289) rfl rfl rfl ?_
        refine g_iload X63 hx hby at_289 (pc' := 291) rfl rfl ?_
        refine Go.iaload X63 hx hZ hh63 Fq0_46 (k := in_) hin_ (by omega) rfl (hb hby at_291) (pc' := 292) rfl ?_
        refine g_iload X63 hx hby at_292 (pc' := 294) rfl rfl ?_
        have hc294 : ((own_cnt (upI (fun _ => (0 : Int32)) in_ p5) (own_set (own_set (fun _ => (0 : Int64)) be1) be2) be0) in_).toInt = v59.toInt := by rw [hF1, hG1, own_un0 hc230, hv59]
        refine g_icmpNo X63 hx hby at_294 (pc' := 297) (teq (show ((own_cnt (upI (fun _ => (0 : Int32)) in_ p5) (own_set (own_set (fun _ => (0 : Int64)) be1) be2) be0) in_) = v59 from Int32.toInt_inj.mp hc294)).2 rfl ?_
        refine g_aload X63 hx hby at_297 (pc' := 299) rfl rfl rfl ?_
        refine g_iload X63 hx hby at_299 (pc' := 301) rfl rfl ?_
        refine Go.iaload X63 hx hZ hh63 Fq0_46 (k := jn) hjn (by omega) rfl (hb hby at_301) (pc' := 302) rfl ?_
        refine g_iload X63 hx hby at_302 (pc' := 304) rfl rfl ?_
        have hc304 : ((own_cnt (upI (fun _ => (0 : Int32)) in_ p5) (own_set (own_set (fun _ => (0 : Int64)) be1) be2) be0) jn).toInt = (0 : Int) := by rw [hF2, (show (upI (fun _ => (0 : Int32)) in_ p5) jn = (0 : Int32) from if_neg (by omega)), own_un0 hc276]; rfl
        refine g_icmpNo X63 hx hby at_304 (pc' := 307) (teq (show ((own_cnt (upI (fun _ => (0 : Int32)) in_ p5) (own_set (own_set (fun _ => (0 : Int64)) be1) be2) be0) jn) = (0 : Int32) from Int32.toInt_inj.mp hc304)).2 rfl ?_
        refine g_iconst X63 hx hby at_307 (pc' := 308) rfl (z := (1 : Int32)) rfl ?_
        refine g_goto X63 hx hby at_308 (pc' := 312) (by decide) (by decide) ?_
        refine Go.retZ X63 hx hlk hret (by simp) (hb hby at_312) (by decide) (by decide) ?_
        exact ⟨rfl, N63⟩
      · refine g_ifNo X63 hx hby at_276 (pc' := 279) (feq (show ¬ ((own_un v5 (v7 + v16) v8 v10 v12 v14) = (0 : Int32)) from fun q => hc276 (congrArg Int32.toInt q))).1 rfl ?_
        refine g_iconst X63 hx hby at_279 (pc' := 280) rfl (z := (1 : Int32)) rfl ?_
        refine g_goto X63 hx hby at_280 (pc' := 284) (by decide) (by decide) ?_
        refine g_iadd X63 hx hby at_284 (pc' := 285) rfl (z := (1 : Int32)) rfl ?_
        refine g_istore X63 hx hby at_285 (pc' := 287) rfl (L' := #[.val (.long p1), .second, .val (.long p2), .second, .val (.int p3), .val (.int p4), .val (.int p5), .val (.int v1), .val (.int v3), .val (.int v5), .val (.int v7), .val (.int v8), .val (.int v10), .val (.int v12), .val (.int v14), .val (.int v15), .val (.int v16), .val (.ref b17), .val (.ref b22), .val (.ref b42), .val (.int v59), .val (.int (0 : Int32)), .val (.int (1 : Int32))]) rfl ?_
        refine g_aload X63 hx hby at_287 (pc' := 289) rfl rfl rfl ?_
        refine g_iload X63 hx hby at_289 (pc' := 291) rfl rfl ?_
        refine Go.iaload X63 hx hZ hh63 Fq0_46 (k := in_) hin_ (by omega) rfl (hb hby at_291) (pc' := 292) rfl ?_
        refine g_iload X63 hx hby at_292 (pc' := 294) rfl rfl ?_
        have hc294 : ((own_cnt (upI (fun _ => (0 : Int32)) in_ p5) (own_set (own_set (fun _ => (0 : Int64)) be1) be2) be0) in_).toInt = v59.toInt := by rw [hF1, hG1, own_un0 hc230, hv59]
        refine g_icmpNo X63 hx hby at_294 (pc' := 297) (teq (show ((own_cnt (upI (fun _ => (0 : Int32)) in_ p5) (own_set (own_set (fun _ => (0 : Int64)) be1) be2) be0) in_) = v59 from Int32.toInt_inj.mp hc294)).2 rfl ?_
        refine g_aload X63 hx hby at_297 (pc' := 299) rfl rfl rfl ?_
        refine g_iload X63 hx hby at_299 (pc' := 301) rfl rfl ?_
        refine Go.iaload X63 hx hZ hh63 Fq0_46 (k := jn) hjn (by omega) rfl (hb hby at_301) (pc' := 302) rfl ?_
        refine g_iload X63 hx hby at_302 (pc' := 304) rfl rfl ?_
        have hc304 : ((own_cnt (upI (fun _ => (0 : Int32)) in_ p5) (own_set (own_set (fun _ => (0 : Int64)) be1) be2) be0) jn).toInt = (1 : Int) := by rw [hF2, (show (upI (fun _ => (0 : Int32)) in_ p5) jn = (0 : Int32) from if_neg (by omega)), own_un1 hc276]; rfl
        refine g_icmpNo X63 hx hby at_304 (pc' := 307) (teq (show ((own_cnt (upI (fun _ => (0 : Int32)) in_ p5) (own_set (own_set (fun _ => (0 : Int64)) be1) be2) be0) jn) = (1 : Int32) from Int32.toInt_inj.mp hc304)).2 rfl ?_
        refine g_iconst X63 hx hby at_307 (pc' := 308) rfl (z := (1 : Int32)) rfl ?_
        refine g_goto X63 hx hby at_308 (pc' := 312) (by decide) (by decide) ?_
        refine Go.retZ X63 hx hlk hret (by simp) (hb hby at_312) (by decide) (by decide) ?_
        exact ⟨rfl, N63⟩
  · refine g_ifNo X58 hx hby at_230 (pc' := 233) (feq (show ¬ ((own_un v5 (v7 + v15) v8 v10 v12 v14) = (0 : Int32)) from fun q => hc230 (congrArg Int32.toInt q))).1 rfl ?_
    refine g_iconst X58 hx hby at_233 (pc' := 234) rfl (z := (1 : Int32)) rfl ?_
    refine g_goto X58 hx hby at_234 (pc' := 238) (by decide) (by decide) ?_
    refine g_iadd X58 hx hby at_238 (pc' := 239) rfl rfl ?_
    generalize hv64 : (p5 + (1 : Int32)) = v64
    refine g_istore X58 hx hby at_239 (pc' := 241) rfl (L' := #[.val (.long p1), .second, .val (.long p2), .second, .val (.int p3), .val (.int p4), .val (.int p5), .val (.int v1), .val (.int v3), .val (.int v5), .val (.int v7), .val (.int v8), .val (.int v10), .val (.int v12), .val (.int v14), .val (.int v15), .val (.int v16), .val (.ref b17), .val (.ref b22), .val (.ref b42), .val (.int v64), .unset, .unset]) rfl ?_
    refine g_iload X58 hx hby at_241 (pc' := 243) rfl rfl ?_
    refine g_iload X58 hx hby at_243 (pc' := 245) rfl rfl ?_
    by_cases hc245 : v16.toInt = v15.toInt
    · refine g_icmpNo X58 hx hby at_245 (pc' := 248) (teq (show v16 = v15 from Int32.toInt_inj.mp hc245)).2 rfl ?_
      refine g_iload X58 hx hby at_248 (pc' := 250) rfl rfl ?_
      refine g_goto X58 hx hby at_250 (pc' := 254) (by decide) (by decide) ?_
      refine g_istore X58 hx hby at_254 (pc' := 256) rfl (L' := #[.val (.long p1), .second, .val (.long p2), .second, .val (.int p3), .val (.int p4), .val (.int p5), .val (.int v1), .val (.int v3), .val (.int v5), .val (.int v7), .val (.int v8), .val (.int v10), .val (.int v12), .val (.int v14), .val (.int v15), .val (.int v16), .val (.ref b17), .val (.ref b22), .val (.ref b42), .val (.int v64), .val (.int p5), .unset]) rfl ?_
      refine g_iload X58 hx hby at_256 (pc' := 258) rfl rfl ?_
      refine g_iload X58 hx hby at_258 (pc' := 260) rfl rfl ?_
      refine g_iload X58 hx hby at_260 (pc' := 262) rfl rfl ?_
      refine g_iload X58 hx hby at_262 (pc' := 264) rfl rfl ?_
      refine g_iadd X58 hx hby at_264 (pc' := 265) rfl rfl ?_
      refine g_iload X58 hx hby at_265 (pc' := 267) rfl rfl ?_
      refine g_iload X58 hx hby at_267 (pc' := 269) rfl rfl ?_
      refine g_iload X58 hx hby at_269 (pc' := 271) rfl rfl ?_
      refine g_iload X58 hx hby at_271 (pc' := 273) rfl rfl ?_
      refine Go.callS X58 hx hZ hown (wi hw 60 rfl) (wi hw 61 rfl) (wi hw 62 rfl) (wi hw 63 rfl) (by decide) hh58 (argsL := [(.int v5), (.int (v7 + v16)), (.int v8), (.int v10), (.int v12), (.int v14)]) (rest := [(.int p5)]) (W := 1) (rm_un l Z a0 hw v5 (v7 + v16) v8 v10 v12 v14 h46 n0 (Nat.le_trans (Nat.le_trans (Nat.le_trans (Nat.le_trans (Nat.le_trans z31 Kq32.1) Kq34.1) E42.1) (Nat.le_of_eq (Wr.size W45).symm)) Kq46.1) ) (hb hby at_273) (by rw [hml]; rfl) rfl pd8 rfl rfl (by decide) (by decide) (by decide) (by decide) ?_
      intro v65 T65 L65 X65 hQ65
      obtain ⟨rfl, Nq65, hh65⟩ := hQ65
      have N65 := Fr.app N58 Nq65
      refine Go.push (pc' := 276) rfl ?_
      by_cases hc276 : (own_un v5 (v7 + v16) v8 v10 v12 v14).toInt = (0 : Int)
      · refine g_ifYes X65 hx hby at_276 (pc' := 283) (teq (show (own_un v5 (v7 + v16) v8 v10 v12 v14) = (0 : Int32) from Int32.toInt_inj.mp hc276)).1 (by decide) (by decide) ?_
        refine g_iconst X65 hx hby at_283 (pc' := 284) rfl (z := (0 : Int32)) rfl ?_
        refine g_iadd X65 hx hby at_284 (pc' := 285) rfl rfl ?_
        generalize hv66 : (p5 + (0 : Int32)) = v66
        refine g_istore X65 hx hby at_285 (pc' := 287) rfl (L' := #[.val (.long p1), .second, .val (.long p2), .second, .val (.int p3), .val (.int p4), .val (.int p5), .val (.int v1), .val (.int v3), .val (.int v5), .val (.int v7), .val (.int v8), .val (.int v10), .val (.int v12), .val (.int v14), .val (.int v15), .val (.int v16), .val (.ref b17), .val (.ref b22), .val (.ref b42), .val (.int v64), .val (.int p5), .val (.int v66)]) rfl ?_
        refine g_aload X65 hx hby at_287 (pc' := 289) rfl rfl rfl ?_
        refine g_iload X65 hx hby at_289 (pc' := 291) rfl rfl ?_
        refine Go.iaload X65 hx hZ hh65 Fq0_46 (k := in_) hin_ (by omega) rfl (hb hby at_291) (pc' := 292) rfl ?_
        refine g_iload X65 hx hby at_292 (pc' := 294) rfl rfl ?_
        have hc294 : ((own_cnt (upI (fun _ => (0 : Int32)) in_ p5) (own_set (own_set (fun _ => (0 : Int64)) be1) be2) be0) in_).toInt = v64.toInt := by rw [hF1, hG1, own_un1 hc230, hv64]
        refine g_icmpNo X65 hx hby at_294 (pc' := 297) (teq (show ((own_cnt (upI (fun _ => (0 : Int32)) in_ p5) (own_set (own_set (fun _ => (0 : Int64)) be1) be2) be0) in_) = v64 from Int32.toInt_inj.mp hc294)).2 rfl ?_
        refine g_aload X65 hx hby at_297 (pc' := 299) rfl rfl rfl ?_
        refine g_iload X65 hx hby at_299 (pc' := 301) rfl rfl ?_
        refine Go.iaload X65 hx hZ hh65 Fq0_46 (k := jn) hjn (by omega) rfl (hb hby at_301) (pc' := 302) rfl ?_
        refine g_iload X65 hx hby at_302 (pc' := 304) rfl rfl ?_
        have hc304 : ((own_cnt (upI (fun _ => (0 : Int32)) in_ p5) (own_set (own_set (fun _ => (0 : Int64)) be1) be2) be0) jn).toInt = v66.toInt := by rw [hF2, (show (upI (fun _ => (0 : Int32)) in_ p5) jn = p5 from if_pos (by omega)), own_un0 hc276, hv66]
        refine g_icmpNo X65 hx hby at_304 (pc' := 307) (teq (show ((own_cnt (upI (fun _ => (0 : Int32)) in_ p5) (own_set (own_set (fun _ => (0 : Int64)) be1) be2) be0) jn) = v66 from Int32.toInt_inj.mp hc304)).2 rfl ?_
        refine g_iconst X65 hx hby at_307 (pc' := 308) rfl (z := (1 : Int32)) rfl ?_
        refine g_goto X65 hx hby at_308 (pc' := 312) (by decide) (by decide) ?_
        refine Go.retZ X65 hx hlk hret (by simp) (hb hby at_312) (by decide) (by decide) ?_
        exact ⟨rfl, N65⟩
      · refine g_ifNo X65 hx hby at_276 (pc' := 279) (feq (show ¬ ((own_un v5 (v7 + v16) v8 v10 v12 v14) = (0 : Int32)) from fun q => hc276 (congrArg Int32.toInt q))).1 rfl ?_
        refine g_iconst X65 hx hby at_279 (pc' := 280) rfl (z := (1 : Int32)) rfl ?_
        refine g_goto X65 hx hby at_280 (pc' := 284) (by decide) (by decide) ?_
        refine g_iadd X65 hx hby at_284 (pc' := 285) rfl rfl ?_
        generalize hv67 : (p5 + (1 : Int32)) = v67
        refine g_istore X65 hx hby at_285 (pc' := 287) rfl (L' := #[.val (.long p1), .second, .val (.long p2), .second, .val (.int p3), .val (.int p4), .val (.int p5), .val (.int v1), .val (.int v3), .val (.int v5), .val (.int v7), .val (.int v8), .val (.int v10), .val (.int v12), .val (.int v14), .val (.int v15), .val (.int v16), .val (.ref b17), .val (.ref b22), .val (.ref b42), .val (.int v64), .val (.int p5), .val (.int v67)]) rfl ?_
        refine g_aload X65 hx hby at_287 (pc' := 289) rfl rfl rfl ?_
        refine g_iload X65 hx hby at_289 (pc' := 291) rfl rfl ?_
        refine Go.iaload X65 hx hZ hh65 Fq0_46 (k := in_) hin_ (by omega) rfl (hb hby at_291) (pc' := 292) rfl ?_
        refine g_iload X65 hx hby at_292 (pc' := 294) rfl rfl ?_
        have hc294 : ((own_cnt (upI (fun _ => (0 : Int32)) in_ p5) (own_set (own_set (fun _ => (0 : Int64)) be1) be2) be0) in_).toInt = v64.toInt := by rw [hF1, hG1, own_un1 hc230, hv64]
        refine g_icmpNo X65 hx hby at_294 (pc' := 297) (teq (show ((own_cnt (upI (fun _ => (0 : Int32)) in_ p5) (own_set (own_set (fun _ => (0 : Int64)) be1) be2) be0) in_) = v64 from Int32.toInt_inj.mp hc294)).2 rfl ?_
        refine g_aload X65 hx hby at_297 (pc' := 299) rfl rfl rfl ?_
        refine g_iload X65 hx hby at_299 (pc' := 301) rfl rfl ?_
        refine Go.iaload X65 hx hZ hh65 Fq0_46 (k := jn) hjn (by omega) rfl (hb hby at_301) (pc' := 302) rfl ?_
        refine g_iload X65 hx hby at_302 (pc' := 304) rfl rfl ?_
        have hc304 : ((own_cnt (upI (fun _ => (0 : Int32)) in_ p5) (own_set (own_set (fun _ => (0 : Int64)) be1) be2) be0) jn).toInt = v67.toInt := by rw [hF2, (show (upI (fun _ => (0 : Int32)) in_ p5) jn = p5 from if_pos (by omega)), own_un1 hc276, hv67]
        refine g_icmpNo X65 hx hby at_304 (pc' := 307) (teq (show ((own_cnt (upI (fun _ => (0 : Int32)) in_ p5) (own_set (own_set (fun _ => (0 : Int64)) be1) be2) be0) jn) = v67 from Int32.toInt_inj.mp hc304)).2 rfl ?_
        refine g_iconst X65 hx hby at_307 (pc' := 308) rfl (z := (1 : Int32)) rfl ?_
        refine g_goto X65 hx hby at_308 (pc' := 312) (by decide) (by decide) ?_
        refine Go.retZ X65 hx hlk hret (by simp) (hb hby at_312) (by decide) (by decide) ?_
        exact ⟨rfl, N65⟩
    · refine g_icmpYes X58 hx hby at_245 (pc' := 253) (feq (show ¬ (v16 = v15) from fun q => hc245 (congrArg Int32.toInt q))).2 (by decide) (by decide) ?_
      refine g_iconst X58 hx hby at_253 (pc' := 254) rfl (z := (0 : Int32)) rfl ?_
      refine g_istore X58 hx hby at_254 (pc' := 256) rfl (L' := #[.val (.long p1), .second, .val (.long p2), .second, .val (.int p3), .val (.int p4), .val (.int p5), .val (.int v1), .val (.int v3), .val (.int v5), .val (.int v7), .val (.int v8), .val (.int v10), .val (.int v12), .val (.int v14), .val (.int v15), .val (.int v16), .val (.ref b17), .val (.ref b22), .val (.ref b42), .val (.int v64), .val (.int (0 : Int32)), .unset]) rfl ?_
      refine g_iload X58 hx hby at_256 (pc' := 258) rfl rfl ?_
      refine g_iload X58 hx hby at_258 (pc' := 260) rfl rfl ?_
      refine g_iload X58 hx hby at_260 (pc' := 262) rfl rfl ?_
      refine g_iload X58 hx hby at_262 (pc' := 264) rfl rfl ?_
      refine g_iadd X58 hx hby at_264 (pc' := 265) rfl rfl ?_
      refine g_iload X58 hx hby at_265 (pc' := 267) rfl rfl ?_
      refine g_iload X58 hx hby at_267 (pc' := 269) rfl rfl ?_
      refine g_iload X58 hx hby at_269 (pc' := 271) rfl rfl ?_
      refine g_iload X58 hx hby at_271 (pc' := 273) rfl rfl ?_
      refine Go.callS X58 hx hZ hown (wi hw 60 rfl) (wi hw 61 rfl) (wi hw 62 rfl) (wi hw 63 rfl) (by decide) hh58 (argsL := [(.int v5), (.int (v7 + v16)), (.int v8), (.int v10), (.int v12), (.int v14)]) (rest := [(.int (0 : Int32))]) (W := 1) (rm_un l Z a0 hw v5 (v7 + v16) v8 v10 v12 v14 h46 n0 (Nat.le_trans (Nat.le_trans (Nat.le_trans (Nat.le_trans (Nat.le_trans z31 Kq32.1) Kq34.1) E42.1) (Nat.le_of_eq (Wr.size W45).symm)) Kq46.1) ) (hb hby at_273) (by rw [hml]; rfl) rfl pd8 rfl rfl (by decide) (by decide) (by decide) (by decide) ?_
      intro v68 T68 L68 X68 hQ68
      obtain ⟨rfl, Nq68, hh68⟩ := hQ68
      have N68 := Fr.app N58 Nq68
      refine Go.push (pc' := 276) rfl ?_
      by_cases hc276 : (own_un v5 (v7 + v16) v8 v10 v12 v14).toInt = (0 : Int)
      · refine g_ifYes X68 hx hby at_276 (pc' := 283) (teq (show (own_un v5 (v7 + v16) v8 v10 v12 v14) = (0 : Int32) from Int32.toInt_inj.mp hc276)).1 (by decide) (by decide) ?_
        refine g_iconst X68 hx hby at_283 (pc' := 284) rfl (z := (0 : Int32)) rfl ?_
        refine g_iadd X68 hx hby at_284 (pc' := 285) rfl (z := (0 : Int32)) rfl ?_
        refine g_istore X68 hx hby at_285 (pc' := 287) rfl (L' := #[.val (.long p1), .second, .val (.long p2), .second, .val (.int p3), .val (.int p4), .val (.int p5), .val (.int v1), .val (.int v3), .val (.int v5), .val (.int v7), .val (.int v8), .val (.int v10), .val (.int v12), .val (.int v14), .val (.int v15), .val (.int v16), .val (.ref b17), .val (.ref b22), .val (.ref b42), .val (.int v64), .val (.int (0 : Int32)), .val (.int (0 : Int32))]) rfl ?_
        refine g_aload X68 hx hby at_287 (pc' := 289) rfl rfl rfl ?_
        refine g_iload X68 hx hby at_289 (pc' := 291) rfl rfl ?_
        refine Go.iaload X68 hx hZ hh68 Fq0_46 (k := in_) hin_ (by omega) rfl (hb hby at_291) (pc' := 292) rfl ?_
        refine g_iload X68 hx hby at_292 (pc' := 294) rfl rfl ?_
        have hc294 : ((own_cnt (upI (fun _ => (0 : Int32)) in_ p5) (own_set (own_set (fun _ => (0 : Int64)) be1) be2) be0) in_).toInt = v64.toInt := by rw [hF1, hG1, own_un1 hc230, hv64]
        refine g_icmpNo X68 hx hby at_294 (pc' := 297) (teq (show ((own_cnt (upI (fun _ => (0 : Int32)) in_ p5) (own_set (own_set (fun _ => (0 : Int64)) be1) be2) be0) in_) = v64 from Int32.toInt_inj.mp hc294)).2 rfl ?_
        refine g_aload X68 hx hby at_297 (pc' := 299) rfl rfl rfl ?_
        refine g_iload X68 hx hby at_299 (pc' := 301) rfl rfl ?_
        refine Go.iaload X68 hx hZ hh68 Fq0_46 (k := jn) hjn (by omega) rfl (hb hby at_301) (pc' := 302) rfl ?_
        refine g_iload X68 hx hby at_302 (pc' := 304) rfl rfl ?_
        have hc304 : ((own_cnt (upI (fun _ => (0 : Int32)) in_ p5) (own_set (own_set (fun _ => (0 : Int64)) be1) be2) be0) jn).toInt = (0 : Int) := by rw [hF2, (show (upI (fun _ => (0 : Int32)) in_ p5) jn = (0 : Int32) from if_neg (by omega)), own_un0 hc276]; rfl
        refine g_icmpNo X68 hx hby at_304 (pc' := 307) (teq (show ((own_cnt (upI (fun _ => (0 : Int32)) in_ p5) (own_set (own_set (fun _ => (0 : Int64)) be1) be2) be0) jn) = (0 : Int32) from Int32.toInt_inj.mp hc304)).2 rfl ?_
        refine g_iconst X68 hx hby at_307 (pc' := 308) rfl (z := (1 : Int32)) rfl ?_
        refine g_goto X68 hx hby at_308 (pc' := 312) (by decide) (by decide) ?_
        refine Go.retZ X68 hx hlk hret (by simp) (hb hby at_312) (by decide) (by decide) ?_
        exact ⟨rfl, N68⟩
      · refine g_ifNo X68 hx hby at_276 (pc' := 279) (feq (show ¬ ((own_un v5 (v7 + v16) v8 v10 v12 v14) = (0 : Int32)) from fun q => hc276 (congrArg Int32.toInt q))).1 rfl ?_
        refine g_iconst X68 hx hby at_279 (pc' := 280) rfl (z := (1 : Int32)) rfl ?_
        refine g_goto X68 hx hby at_280 (pc' := 284) (by decide) (by decide) ?_
        refine g_iadd X68 hx hby at_284 (pc' := 285) rfl (z := (1 : Int32)) rfl ?_
        refine g_istore X68 hx hby at_285 (pc' := 287) rfl (L' := #[.val (.long p1), .second, .val (.long p2), .second, .val (.int p3), .val (.int p4), .val (.int p5), .val (.int v1), .val (.int v3), .val (.int v5), .val (.int v7), .val (.int v8), .val (.int v10), .val (.int v12), .val (.int v14), .val (.int v15), .val (.int v16), .val (.ref b17), .val (.ref b22), .val (.ref b42), .val (.int v64), .val (.int (0 : Int32)), .val (.int (1 : Int32))]) rfl ?_
        refine g_aload X68 hx hby at_287 (pc' := 289) rfl rfl rfl ?_
        refine g_iload X68 hx hby at_289 (pc' := 291) rfl rfl ?_
        refine Go.iaload X68 hx hZ hh68 Fq0_46 (k := in_) hin_ (by omega) rfl (hb hby at_291) (pc' := 292) rfl ?_
        refine g_iload X68 hx hby at_292 (pc' := 294) rfl rfl ?_
        have hc294 : ((own_cnt (upI (fun _ => (0 : Int32)) in_ p5) (own_set (own_set (fun _ => (0 : Int64)) be1) be2) be0) in_).toInt = v64.toInt := by rw [hF1, hG1, own_un1 hc230, hv64]
        refine g_icmpNo X68 hx hby at_294 (pc' := 297) (teq (show ((own_cnt (upI (fun _ => (0 : Int32)) in_ p5) (own_set (own_set (fun _ => (0 : Int64)) be1) be2) be0) in_) = v64 from Int32.toInt_inj.mp hc294)).2 rfl ?_
        refine g_aload X68 hx hby at_297 (pc' := 299) rfl rfl rfl ?_
        refine g_iload X68 hx hby at_299 (pc' := 301) rfl rfl ?_
        refine Go.iaload X68 hx hZ hh68 Fq0_46 (k := jn) hjn (by omega) rfl (hb hby at_301) (pc' := 302) rfl ?_
        refine g_iload X68 hx hby at_302 (pc' := 304) rfl rfl ?_
        have hc304 : ((own_cnt (upI (fun _ => (0 : Int32)) in_ p5) (own_set (own_set (fun _ => (0 : Int64)) be1) be2) be0) jn).toInt = (1 : Int) := by rw [hF2, (show (upI (fun _ => (0 : Int32)) in_ p5) jn = (0 : Int32) from if_neg (by omega)), own_un1 hc276]; rfl
        refine g_icmpNo X68 hx hby at_304 (pc' := 307) (teq (show ((own_cnt (upI (fun _ => (0 : Int32)) in_ p5) (own_set (own_set (fun _ => (0 : Int64)) be1) be2) be0) jn) = (1 : Int32) from Int32.toInt_inj.mp hc304)).2 rfl ?_
        refine g_iconst X68 hx hby at_307 (pc' := 308) rfl (z := (1 : Int32)) rfl ?_
        refine g_goto X68 hx hby at_308 (pc' := 312) (by decide) (by decide) ?_
        refine Go.retZ X68 hx hlk hret (by simp) (hb hby at_312) (by decide) (by decide) ?_
        exact ⟨rfl, N68⟩
set_option maxRecDepth 65536 in
set_option maxHeartbeats 40000000 in
theorem comes_1 {Post : Tables → Env → Array Value → State → Outcome → State → Prop} (hpost : ∀ tb e args s v u, (limb_1_1.after args s (.returned v) u = true ∧ limb_1_2.after args s (.returned v) u = true) → FrameEnd s (.returned v) u (Jvm.fieldLocs frame_1_writes args s ++ Jvm.arrayLocs frame_1_arrays args s ++ Jvm.staticLocs frame_1_statics s) 24 1216 → Post tb e args s (.returned v) u) :
    ArmFor flags0 classFile x code maxLocals ret World_1 tables_1 room_1 Calls_1 rest_1 Pre_1 Post := by
  intro l hfl _ _ p e ha hc hk s m args below hf hA hF happ hP
  obtain ⟨hcalls, hrest, hpre⟩ := hP
  obtain ⟨-, -, -, hnamed, -, -, -, hat⟩ := (Spec.applies_iff hf).mp happ
  obtain ⟨hg, hn⟩ := and_e (Cond.before_iff.mp (show (Jvm.Cond.and given_1 narrow_1).before args s = true from hpre))
  obtain ⟨g0, r0⟩ := and_e hg
  obtain ⟨g1, r1⟩ := and_e r0
  obtain ⟨g2, r2⟩ := and_e r1
  obtain ⟨g3, r3⟩ := and_e r2
  obtain ⟨g4, g5⟩ := and_e r3
  obtain ⟨w0, w1, w2, w3, w4, rfl⟩ : ∃ w0 w1 w2 w3 w4 : Value, args = #[w0, w1, w2, w3, w4] := by
    have hs : args.size = 5 := by simpa [Cond.value, given_1] using g0
    obtain ⟨L⟩ := args
    match L, hs with
    | [w0, w1, w2, w3, w4], _ => exact ⟨w0, w1, w2, w3, w4, rfl⟩
  have hw := fun d (hd : d ∈ tables_1) => atoms_spec (ws := Jvm.Cond.code x code maxLocals ret :: tables_1) hat d (List.mem_cons_of_mem _ hd)
  have hfit : Fit s := fun {y c} hc i hi => by
    obtain ⟨ha, rfl⟩ := Array.getElem?_eq_some_iff.mp hc
    have q := List.all_eq_true.mp ((Array.all_eq_true_iff_forall_mem.mp hF) _ (Array.getElem_mem ha)) i (List.mem_range.mpr hi)
    simpa [Array.getElem?_eq_getElem hi] using q
  obtain ⟨i0, ei0⟩ := isL_v g1
  obtain rfl : w0 = (.long i0) := Option.some.inj ei0
  obtain ⟨i1, ei1⟩ := isL_v g2
  obtain rfl : w1 = (.long i1) := Option.some.inj ei1
  obtain ⟨i2, ei2⟩ := is_v g3
  obtain rfl : w2 = (.int i2) := Option.some.inj ei2
  obtain ⟨i3, ei3⟩ := is_v g4
  obtain rfl : w3 = (.int i3) := Option.some.inj ei3
  obtain ⟨i4, ei4⟩ := is_v g5
  obtain rfl : w4 = (.int i4) := Option.some.inj ei4
  obtain ⟨n, o, h1, h2, h3, _, L, rfl, ⟨rfl, N⟩, hq⟩ := rm0 l s _ hw tables_1 i0 i1 i2 i3 i4 s.heap s.heap.size (Nat.le_refl _)  p e ha hc hk s m _ below hf ((Spec.applies_iff_loose hf).mp happ).1 ⟨rfl, State.Warmed39.refl s, rfl⟩ trivial
  refine ⟨n, _, h1, h2, h3, hpost _ _ _ _ _ _ ⟨Cond.after_iff.mpr rfl, Cond.after_iff.mpr (eq_i res_at (Term.int_eval (1)) rfl)⟩ ⟨hq.1, hq.2.1, (hq.2.2.sift fun y hy => Or.inr (N y hy)).mono (by decide) (by decide)⟩⟩
theorem main_1_1 : Claimed_1_1 := comes_1 fun _ _ _ _ _ _ h hF => ⟨h.1, hF⟩
theorem main_1_2 : Claimed_1_2 := comes_1 fun _ _ _ _ _ _ h hF => ⟨h.2, hF⟩
end Jvm.Pilot.@@N@@
namespace Jvm.Pilot.@@N@@
open Jvm Jvm.ClassFile Sem Op Lib Jvm.Free Jvm.Stand Jvm.Pilot.@@N@@.Jvm.D
/-! MADE BY PROGRAM (witnessworld.py) out of the Statement's table words and the real class files: 18 classes; the members and pool entries that the words name. The judged class is class 1, her method 2. -/
namespace start1
open Jvm.ClassFile
def u (s : String) : CpInfo := .utf8 (stringToUtf16 s)
/-- a pool by its gaps: so many unusable entries, then the entry; so many at the end -/
def gap : Nat → List CpInfo → List CpInfo
  | 0, r => r
  | n + 1, r => .unusable :: gap n r
def poolList (es : List (Nat × CpInfo)) (last : Nat) : List CpInfo := es.foldr (fun e r => gap e.1 (e.2 :: r)) (gap last [])
def pool (es : List (Nat × CpInfo)) (last : Nat) : Array CpInfo := ⟨poolList es last⟩
def fileOf (pool : Array CpInfo) (this : Nat) (attrs : Array Attribute := #[]) (ms : Array MethodInfo := #[]) (fl : Nat := 33) (sup : Nat := 0) (ifs : Array Nat := #[]) (fds : Array FieldInfo := #[]) : ClassFile where
  minorVersion := 0
  majorVersion := 65
  constantPool := pool
  accessFlags := fl
  thisClass := this
  superClass := sup
  interfaces := ifs
  fields := fds
  methods := ms
  attributes := attrs
def plain (name : String) (sup : Option ClassId) : Class where
  name := name
  kind := .ordinary
  loader := none
  accessFlags := 33
  super := sup
  interfaces := #[]
  cf := none
  fields := #[]
  methods := #[]
  instanceTypes := #[]
  staticTypes := #[]
  resolved := #[]
  callSites := []
  init := .initialized
  statics := none
  mirror := none

def pool0 : Array CpInfo := pool [(5, u "<init>"), (0, u "()V"), (1, .class_ 10), (1, u "java/lang/Object")] 113

def k0c0 : Code := { maxStack := 0, maxLocals := 1, code := object_method_1_code, exceptionTable := #[], attributes := #[] }
def k0m0 : Method := { name := "<init>", desc := "()V", sig := { parameters := [], returnType := none }, accessFlags := 1, code := some k0c0 }
/-- java/lang/Object -/
def k0 : Class := { plain "java/lang/Object" none with
  accessFlags := 33
  interfaces := #[]
  cf := some (fileOf pool0 8 #[] #[{ accessFlags := 1, nameIndex := 5, descriptorIndex := 6, attributes := #[] }] 33 0 #[] #[])
  fields := #[]
  methods := #[k0m0]
  instanceTypes := #[]
  staticTypes := #[]
  resolved := Array.replicate 124 none
  statics := none }

def pool1 : Array CpInfo := pool [(2, .class_ 4), (1, u "java/lang/Object"), (0, u "<init>"), (0, u "()V"), (0, .long 3), (1, .long 63), (1, .long 255), (1, .integer 2147483647), (0, .class_ 15), (0, u "com/example/firstfail/firstfail/pairwise/Pairs"), (0, .methodref 14 17), (0, .nameAndType 5 18), (0, u "([I)V"), (0, .methodref 14 20), (0, .nameAndType 21 22), (0, u "cover"), (0, u "(II)V"), (0, .methodref 14 24), (0, .nameAndType 25 26), (0, u "countUncovered"), (0, u "(II[I)V"), (0, .methodref 28 29), (0, .class_ 30), (0, .nameAndType 31 32), (0, u "com/example/firstfail/firstfail/pairwise/PairsCountUncoveredPinLaw"), (0, u "uncovered"), (0, u "(IIIIII)Z"), (3, u "law"), (0, u "(JJIII)Z")] 4

def k1m0 : Method := { name := "<init>", desc := "()V", sig := { parameters := [], returnType := none }, accessFlags := 1, code := none }
def k1c1 : Code := { maxStack := 2, maxLocals := 6, code := method_2_code, exceptionTable := #[], attributes := #[] }
def k1m1 : Method := { name := "uncovered", desc := "(IIIIII)Z", sig := { parameters := [.int, .int, .int, .int, .int, .int], returnType := some .boolean }, accessFlags := 10, code := some k1c1 }
def k1c2 : Code := { maxStack := 7, maxLocals := 23, code := code, exceptionTable := #[], attributes := #[] }
def k1m2 : Method := { name := "law", desc := "(JJIII)Z", sig := { parameters := [.long, .long, .int, .int, .int], returnType := some .boolean }, accessFlags := 9, code := some k1c2 }
/-- com/example/firstfail/firstfail/pairwise/PairsCountUncoveredPinLaw -/
def k1 : Class := { plain "com/example/firstfail/firstfail/pairwise/PairsCountUncoveredPinLaw" (some 0) with
  accessFlags := 49
  interfaces := #[]
  cf := some (fileOf pool1 28 #[] #[{ accessFlags := 1, nameIndex := 5, descriptorIndex := 6, attributes := #[] }, { accessFlags := 10, nameIndex := 31, descriptorIndex := 32, attributes := #[] }, { accessFlags := 9, nameIndex := 36, descriptorIndex := 37, attributes := #[] }] 49 2 #[] #[])
  fields := #[]
  methods := #[k1m0, k1m1, k1m2]
  instanceTypes := #[]
  staticTypes := #[]
  resolved := Array.replicate 42 none
  statics := none }

def pool2 : Array CpInfo := pool [(1, .class_ 2), (0, u "java/lang/Long"), (0, .methodref 4 5), (0, .class_ 6), (0, .nameAndType 7 8), (0, u "java/lang/Object"), (0, u "<init>"), (0, u "()V"), (0, .fieldref 10 11), (0, .class_ 12), (0, .nameAndType 13 14), (0, u "com/example/firstfail/firstfail/pairwise/Pairs"), (0, u "nextColumn"), (0, u "[I"), (0, .fieldref 10 16), (0, .nameAndType 17 18), (0, u "rowStart"), (0, u "[J"), (0, .long 64), (3, .long 2147483639), (10, .fieldref 10 35), (0, .nameAndType 36 18), (0, u "covered"), (0, .fieldref 10 38), (0, .nameAndType 39 18), (0, u "forbidden"), (4, .methodref 10 45), (0, .nameAndType 46 47), (0, u "set"), (0, u "([JII)V"), (0, .methodref 10 49), (0, .nameAndType 50 51), (0, u "bit"), (0, u "(II)J"), (0, .methodref 53 54), (0, .class_ 55), (0, .nameAndType 56 57), (0, u "java/lang/Math"), (0, u "min"), (0, u "(II)I"), (0, .long 18446744073709551615), (1, .methodref 1 61), (0, .nameAndType 62 63), (0, u "numberOfTrailingZeros"), (0, u "(J)I"), (0, .methodref 53 65), (0, .nameAndType 66 57), (0, u "max"), (0, u "WORD"), (0, u "I"), (2, u "([I)V"), (5, u "cover"), (0, u "(II)V"), (0, u "countUncovered"), (0, u "(II[I)V")] 18

def k2c0 : Code := { maxStack := 4, maxLocals := 11, code := prog_31_method_1_code, exceptionTable := #[], attributes := #[] }
def k2m0 : Method := { name := "<init>", desc := "([I)V", sig := { parameters := [(.array .int)], returnType := none }, accessFlags := 0, code := some k2c0 }
def k2c1 : Code := { maxStack := 4, maxLocals := 3, code := prog_31_method_3_code, exceptionTable := #[], attributes := #[] }
def k2m1 : Method := { name := "cover", desc := "(II)V", sig := { parameters := [.int, .int], returnType := none }, accessFlags := 0, code := some k2c1 }
def k2c2 : Code := { maxStack := 6, maxLocals := 11, code := prog_31_method_4_code, exceptionTable := #[], attributes := #[] }
def k2m2 : Method := { name := "countUncovered", desc := "(II[I)V", sig := { parameters := [.int, .int, (.array .int)], returnType := none }, accessFlags := 0, code := some k2c2 }
def k2c3 : Code := { maxStack := 8, maxLocals := 6, code := prog_31_method_8_code, exceptionTable := #[], attributes := #[] }
def k2m3 : Method := { name := "set", desc := "([JII)V", sig := { parameters := [(.array .long), .int, .int], returnType := none }, accessFlags := 2, code := some k2c3 }
def k2c4 : Code := { maxStack := 4, maxLocals := 5, code := prog_31_method_9_code, exceptionTable := #[], attributes := #[] }
def k2m4 : Method := { name := "bit", desc := "(II)J", sig := { parameters := [.int, .int], returnType := some .long }, accessFlags := 2, code := some k2c4 }
/-- com/example/firstfail/firstfail/pairwise/Pairs -/
def k2 : Class := { plain "com/example/firstfail/firstfail/pairwise/Pairs" (some 0) with
  accessFlags := 48
  interfaces := #[]
  cf := some (fileOf pool2 10 #[] #[{ accessFlags := 0, nameIndex := 7, descriptorIndex := 71, attributes := #[] }, { accessFlags := 0, nameIndex := 77, descriptorIndex := 78, attributes := #[] }, { accessFlags := 0, nameIndex := 79, descriptorIndex := 80, attributes := #[] }, { accessFlags := 2, nameIndex := 46, descriptorIndex := 47, attributes := #[] }, { accessFlags := 2, nameIndex := 50, descriptorIndex := 51, attributes := #[] }] 48 4 #[] #[{ accessFlags := 26, nameIndex := 67, descriptorIndex := 68, attributes := #[] }, { accessFlags := 18, nameIndex := 13, descriptorIndex := 14, attributes := #[] }, { accessFlags := 18, nameIndex := 17, descriptorIndex := 18, attributes := #[] }, { accessFlags := 18, nameIndex := 36, descriptorIndex := 18, attributes := #[] }, { accessFlags := 18, nameIndex := 39, descriptorIndex := 18, attributes := #[] }])
  fields := #[{ name := "WORD", type := .int, accessFlags := 26, slot := 0, constantValue := 0 }, { name := "nextColumn", type := (.array .int), accessFlags := 18, slot := 0, constantValue := 0 }, { name := "rowStart", type := (.array .long), accessFlags := 18, slot := 1, constantValue := 0 }, { name := "covered", type := (.array .long), accessFlags := 18, slot := 2, constantValue := 0 }, { name := "forbidden", type := (.array .long), accessFlags := 18, slot := 3, constantValue := 0 }]
  methods := #[k2m0, k2m1, k2m2, k2m3, k2m4]
  instanceTypes := #[(.array .int), (.array .long), (.array .long), (.array .long)]
  staticTypes := #[.int]
  resolved := Array.replicate 99 none
  statics := none }

def pool3 : Array CpInfo := pool [(1, .class_ 2), (0, u "java/lang/Math"), (1, .class_ 6), (1, u "java/lang/Object"), (0, u "<init>"), (0, u "()V"), (89, .class_ 100), (1, u "java/lang/Math$RandomNumberGeneratorHolder"), (71, u "negativeZeroFloatBits"), (0, u "J"), (2, u "negativeZeroDoubleBits"), (21, u "max"), (2, u "min"), (43, u "$assertionsDisabled"), (0, u "Z"), (88, u "(II)I"), (2, u "twoToTheDoubleScaleDown"), (0, u "D"), (4, u "twoToTheDoubleScaleUp"), (9, u "E"), (3, u "PI"), (2, u "TAU"), (2, u "DEGREES_TO_RADIANS"), (0, u "RADIANS_TO_DEGREES")] 94

def k3m0 : Method := { name := "<init>", desc := "()V", sig := { parameters := [], returnType := none }, accessFlags := 2, code := none }
def k3c1 : Code := { maxStack := 2, maxLocals := 2, code := jdk_29_method_65_code, exceptionTable := #[], attributes := #[] }
def k3m1 : Method := { name := "max", desc := "(II)I", sig := { parameters := [.int, .int], returnType := some .int }, accessFlags := 9, code := some k3c1 }
def k3c2 : Code := { maxStack := 2, maxLocals := 2, code := jdk_29_method_69_code, exceptionTable := #[], attributes := #[] }
def k3m2 : Method := { name := "min", desc := "(II)I", sig := { parameters := [.int, .int], returnType := some .int }, accessFlags := 9, code := some k3c2 }
/-- java/lang/Math -/
def k3 : Class := { plain "java/lang/Math" (some 0) with
  accessFlags := 49
  interfaces := #[]
  cf := some (fileOf pool3 1 #[.nestMembers #[98]] #[{ accessFlags := 2, nameIndex := 7, descriptorIndex := 8, attributes := #[] }, { accessFlags := 9, nameIndex := 198, descriptorIndex := 335, attributes := #[] }, { accessFlags := 9, nameIndex := 201, descriptorIndex := 335, attributes := #[] }] 49 4 #[] #[{ accessFlags := 25, nameIndex := 354, descriptorIndex := 339, attributes := #[] }, { accessFlags := 25, nameIndex := 358, descriptorIndex := 339, attributes := #[] }, { accessFlags := 25, nameIndex := 361, descriptorIndex := 339, attributes := #[] }, { accessFlags := 26, nameIndex := 364, descriptorIndex := 339, attributes := #[] }, { accessFlags := 26, nameIndex := 365, descriptorIndex := 339, attributes := #[] }, { accessFlags := 26, nameIndex := 172, descriptorIndex := 173, attributes := #[] }, { accessFlags := 26, nameIndex := 176, descriptorIndex := 173, attributes := #[] }, { accessFlags := 8, nameIndex := 344, descriptorIndex := 339, attributes := #[] }, { accessFlags := 8, nameIndex := 338, descriptorIndex := 339, attributes := #[] }, { accessFlags := 4120, nameIndex := 245, descriptorIndex := 246, attributes := #[] }])
  fields := #[{ name := "E", type := .double, accessFlags := 25, slot := 0, constantValue := 0 }, { name := "PI", type := .double, accessFlags := 25, slot := 1, constantValue := 0 }, { name := "TAU", type := .double, accessFlags := 25, slot := 2, constantValue := 0 }, { name := "DEGREES_TO_RADIANS", type := .double, accessFlags := 26, slot := 3, constantValue := 0 }, { name := "RADIANS_TO_DEGREES", type := .double, accessFlags := 26, slot := 4, constantValue := 0 }, { name := "negativeZeroFloatBits", type := .long, accessFlags := 26, slot := 5, constantValue := 0 }, { name := "negativeZeroDoubleBits", type := .long, accessFlags := 26, slot := 6, constantValue := 0 }, { name := "twoToTheDoubleScaleUp", type := .double, accessFlags := 8, slot := 7, constantValue := 0 }, { name := "twoToTheDoubleScaleDown", type := .double, accessFlags := 8, slot := 8, constantValue := 0 }, { name := "$assertionsDisabled", type := .boolean, accessFlags := 4120, slot := 9, constantValue := 0 }]
  methods := #[k3m0, k3m1, k3m2]
  instanceTypes := #[]
  staticTypes := #[.double, .double, .double, .double, .double, .long, .long, .double, .double, .boolean]
  resolved := Array.replicate 460 none
  statics := none }

def pool4 : Array CpInfo := pool [(1, .class_ 2), (0, u "java/io/Serializable"), (0, .class_ 4), (0, u "java/lang/Object")] 2

/-- java/io/Serializable -/
def k4 : Class := { plain "java/io/Serializable" (some 0) with
  accessFlags := 1537
  interfaces := #[]
  cf := some (fileOf pool4 1 #[] #[] 1537 3 #[] #[])
  fields := #[]
  methods := #[]
  instanceTypes := #[]
  staticTypes := #[]
  resolved := Array.replicate 7 none
  statics := none }

def pool5 : Array CpInfo := pool [(2, .class_ 4), (1, u "java/lang/Object"), (0, u "<init>"), (0, u "()V"), (1, .class_ 10), (1, u "java/lang/Number"), (2, .class_ 14), (0, u "java/io/Serializable"), (0, u "serialVersionUID"), (0, u "J")] 20

def k5m0 : Method := { name := "<init>", desc := "()V", sig := { parameters := [], returnType := none }, accessFlags := 1, code := none }
/-- java/lang/Number -/
def k5 : Class := { plain "java/lang/Number" (some 0) with
  accessFlags := 1057
  interfaces := #[4]
  cf := some (fileOf pool5 8 #[] #[{ accessFlags := 1, nameIndex := 5, descriptorIndex := 6, attributes := #[] }] 1057 2 #[13] #[{ accessFlags := 26, nameIndex := 15, descriptorIndex := 16, attributes := #[] }])
  fields := #[{ name := "serialVersionUID", type := .long, accessFlags := 26, slot := 0, constantValue := 0 }]
  methods := #[k5m0]
  instanceTypes := #[]
  staticTypes := #[.long]
  resolved := Array.replicate 37 none
  statics := none }

def pool6 : Array CpInfo := pool [(1, .class_ 2), (0, u "java/lang/Comparable"), (0, .class_ 4), (0, u "java/lang/Object")] 7

/-- java/lang/Comparable -/
def k6 : Class := { plain "java/lang/Comparable" (some 0) with
  accessFlags := 1537
  interfaces := #[]
  cf := some (fileOf pool6 1 #[] #[] 1537 3 #[] #[])
  fields := #[]
  methods := #[]
  instanceTypes := #[]
  staticTypes := #[]
  resolved := Array.replicate 12 none
  statics := none }

def pool7 : Array CpInfo := pool [(1, .class_ 2), (0, u "java/lang/constant/Constable"), (0, .class_ 4), (0, u "java/lang/Object")] 6

/-- java/lang/constant/Constable -/
def k7 : Class := { plain "java/lang/constant/Constable" (some 0) with
  accessFlags := 1537
  interfaces := #[]
  cf := some (fileOf pool7 1 #[] #[] 1537 3 #[] #[])
  fields := #[]
  methods := #[]
  instanceTypes := #[]
  staticTypes := #[]
  resolved := Array.replicate 11 none
  statics := none }

def pool8 : Array CpInfo := pool [(1, .class_ 2), (0, u "java/lang/constant/ConstantDesc"), (0, .class_ 4), (0, u "java/lang/Object")] 32

/-- java/lang/constant/ConstantDesc -/
def k8 : Class := { plain "java/lang/constant/ConstantDesc" (some 0) with
  accessFlags := 1537
  interfaces := #[]
  cf := some (fileOf pool8 1 #[] #[] 1537 3 #[] #[])
  fields := #[]
  methods := #[]
  instanceTypes := #[]
  staticTypes := #[]
  resolved := Array.replicate 37 none
  statics := none }

def pool9 : Array CpInfo := pool [(1, .class_ 2), (0, u "java/lang/Long"), (15, .class_ 20), (1, u "java/lang/Integer"), (80, u "(J)I"), (133, .class_ 237), (1, u "java/lang/Long$LongCache"), (33, .class_ 272), (0, u "java/lang/Number"), (2, u "value"), (0, u "J"), (33, u "(I)I"), (0, .methodref 18 312), (0, .nameAndType 313 310), (0, u "numberOfTrailingZeros"), (47, u "TYPE"), (0, u "Ljava/lang/Class;"), (0, .class_ 364), (0, u "java/lang/Comparable"), (0, .class_ 366), (0, u "java/lang/constant/Constable"), (0, .class_ 368), (0, u "java/lang/constant/ConstantDesc"), (0, u "MIN_VALUE"), (1, u "MAX_VALUE"), (4, u "SIZE"), (0, u "I"), (1, u "BYTES"), (1, u "serialVersionUID")] 142

def k9c0 : Code := { maxStack := 4, maxLocals := 3, code := jdk_35_method_49_code, exceptionTable := #[], attributes := #[] }
def k9m0 : Method := { name := "numberOfTrailingZeros", desc := "(J)I", sig := { parameters := [.long], returnType := some .int }, accessFlags := 9, code := some k9c0 }
/-- java/lang/Long -/
def k9 : Class := { plain "java/lang/Long" (some 5) with
  accessFlags := 49
  interfaces := #[6, 7, 8]
  cf := some (fileOf pool9 1 #[.nestMembers #[235]] #[{ accessFlags := 9, nameIndex := 313, descriptorIndex := 101, attributes := #[] }] 49 271 #[363, 365, 367] #[{ accessFlags := 25, nameIndex := 369, descriptorIndex := 276, attributes := #[] }, { accessFlags := 25, nameIndex := 371, descriptorIndex := 276, attributes := #[] }, { accessFlags := 25, nameIndex := 361, descriptorIndex := 362, attributes := #[] }, { accessFlags := 18, nameIndex := 275, descriptorIndex := 276, attributes := #[] }, { accessFlags := 25, nameIndex := 376, descriptorIndex := 377, attributes := #[] }, { accessFlags := 25, nameIndex := 379, descriptorIndex := 377, attributes := #[] }, { accessFlags := 26, nameIndex := 381, descriptorIndex := 276, attributes := #[] }])
  fields := #[{ name := "MIN_VALUE", type := .long, accessFlags := 25, slot := 0, constantValue := 0 }, { name := "MAX_VALUE", type := .long, accessFlags := 25, slot := 1, constantValue := 0 }, { name := "TYPE", type := (.object "java/lang/Class"), accessFlags := 25, slot := 2, constantValue := 0 }, { name := "value", type := .long, accessFlags := 18, slot := 0, constantValue := 0 }, { name := "SIZE", type := .int, accessFlags := 25, slot := 3, constantValue := 0 }, { name := "BYTES", type := .int, accessFlags := 25, slot := 4, constantValue := 0 }, { name := "serialVersionUID", type := .long, accessFlags := 26, slot := 5, constantValue := 0 }]
  methods := #[k9m0]
  instanceTypes := #[.long]
  staticTypes := #[.long, .long, (.object "java/lang/Class"), .int, .int, .long]
  resolved := Array.replicate 524 none
  statics := none }

def pool10 : Array CpInfo := pool [(1, .class_ 2), (0, u "java/lang/Integer"), (16, u "digits"), (0, u "[C"), (33, u "(I)I"), (30, u "DigitOnes"), (0, u "[B"), (2, u "DigitTens"), (99, .class_ 190), (0, u "java/lang/Integer$IntegerCache"), (3, u "I"), (8, .class_ 204), (0, u "java/lang/Number"), (2, u "value"), (56, .integer 65536), (37, u "TYPE"), (0, u "Ljava/lang/Class;"), (0, .class_ 305), (0, u "java/lang/Comparable"), (0, .class_ 307), (0, u "java/lang/constant/Constable"), (0, .class_ 309), (0, u "java/lang/constant/ConstantDesc"), (0, u "MIN_VALUE"), (1, u "MAX_VALUE"), (3, u "SIZE"), (1, u "BYTES"), (1, u "serialVersionUID"), (0, u "J"), (84, u "numberOfTrailingZeros")] 46

def k10c0 : Code := { maxStack := 3, maxLocals := 2, code := jdk_33_method_48_code, exceptionTable := #[], attributes := #[] }
def k10m0 : Method := { name := "numberOfTrailingZeros", desc := "(I)I", sig := { parameters := [.int], returnType := some .int }, accessFlags := 9, code := some k10c0 }
/-- java/lang/Integer -/
def k10 : Class := { plain "java/lang/Integer" (some 5) with
  accessFlags := 49
  interfaces := #[6, 7, 8]
  cf := some (fileOf pool10 1 #[.nestMembers #[189]] #[{ accessFlags := 9, nameIndex := 406, descriptorIndex := 54, attributes := #[] }] 49 203 #[304, 306, 308] #[{ accessFlags := 25, nameIndex := 310, descriptorIndex := 194, attributes := #[] }, { accessFlags := 25, nameIndex := 312, descriptorIndex := 194, attributes := #[] }, { accessFlags := 25, nameIndex := 302, descriptorIndex := 303, attributes := #[] }, { accessFlags := 24, nameIndex := 19, descriptorIndex := 20, attributes := #[] }, { accessFlags := 24, nameIndex := 89, descriptorIndex := 86, attributes := #[] }, { accessFlags := 24, nameIndex := 85, descriptorIndex := 86, attributes := #[] }, { accessFlags := 18, nameIndex := 207, descriptorIndex := 194, attributes := #[] }, { accessFlags := 25, nameIndex := 316, descriptorIndex := 194, attributes := #[] }, { accessFlags := 25, nameIndex := 318, descriptorIndex := 194, attributes := #[] }, { accessFlags := 26, nameIndex := 320, descriptorIndex := 321, attributes := #[] }])
  fields := #[{ name := "MIN_VALUE", type := .int, accessFlags := 25, slot := 0, constantValue := 0 }, { name := "MAX_VALUE", type := .int, accessFlags := 25, slot := 1, constantValue := 0 }, { name := "TYPE", type := (.object "java/lang/Class"), accessFlags := 25, slot := 2, constantValue := 0 }, { name := "digits", type := (.array .char), accessFlags := 24, slot := 3, constantValue := 0 }, { name := "DigitTens", type := (.array .byte), accessFlags := 24, slot := 4, constantValue := 0 }, { name := "DigitOnes", type := (.array .byte), accessFlags := 24, slot := 5, constantValue := 0 }, { name := "value", type := .int, accessFlags := 18, slot := 0, constantValue := 0 }, { name := "SIZE", type := .int, accessFlags := 25, slot := 6, constantValue := 0 }, { name := "BYTES", type := .int, accessFlags := 25, slot := 7, constantValue := 0 }, { name := "serialVersionUID", type := .long, accessFlags := 26, slot := 8, constantValue := 0 }]
  methods := #[k10m0]
  instanceTypes := #[.int]
  staticTypes := #[.int, .int, (.object "java/lang/Class"), (.array .char), (.array .byte), (.array .byte), .int, .int, .long]
  resolved := Array.replicate 453 none
  statics := none }

def pool11 : Array CpInfo := pool [(1, u "java/lang/Cloneable"), (0, .class_ 1), (0, u "java/lang/Object"), (0, .class_ 3)] 3

/-- java/lang/Cloneable -/
def k11 : Class := { plain "java/lang/Cloneable" (some 0) with
  accessFlags := 1537
  interfaces := #[]
  cf := some (fileOf pool11 2 #[] #[] 1537 4 #[] #[])
  fields := #[]
  methods := #[]
  instanceTypes := #[]
  staticTypes := #[]
  resolved := Array.replicate 8 none
  statics := none }

/-- the primitive byte -/
def k12 : Class := { plain "byte" none with kind := .primitive 'B', accessFlags := 0x411 }
/-- [B -/
def k13 : Class := { plain "[B" (some 0) with kind := .array 12 .byte, interfaces := #[11, 4], accessFlags := 1041 }

/-- the primitive int -/
def k14 : Class := { plain "int" none with kind := .primitive 'I', accessFlags := 0x411 }
/-- [I -/
def k15 : Class := { plain "[I" (some 0) with kind := .array 14 .int, interfaces := #[11, 4], accessFlags := 1041 }

/-- the primitive long -/
def k16 : Class := { plain "long" none with kind := .primitive 'J', accessFlags := 0x411 }
/-- [J -/
def k17 : Class := { plain "[J" (some 0) with kind := .array 16 .long, interfaces := #[11, 4], accessFlags := 1041 }

def heap : Heap := #[]
def classes : Array Class := #[k0, k1, k2, k3, k4, k5, k6, k7, k8, k9, k10, k11, k12, k13, k14, k15, k16, k17]
def interned : List (Array UInt16 × Addr) := []
def slotsUsed : Nat := 0
def theMethod : MethodId := ⟨1, 2⟩
def args0 : Array Value := #[.long 5, .long 9, .int 5, .int 7, .int 9]
def aboutOver (below : List Frame) : State where
  vm := { classes := classes, interned := interned.toArray }
  heap := heap
  slotsUsed := slotsUsed
  threads := #[{ frames := .invoking theMethod args0 :: below }]
def below0 : List Frame := [.native { method := ⟨0, 0⟩, args := #[] }]
def about1 : State := aboutOver below0
def p0 : Program := .bare "" "" ""
def e0 : Env := launch0.env 0 0 0
theorem w_frames : about1.frames = Frame.invoking theMethod args0 :: below0 := rfl
set_option maxRecDepth 65536 in
theorem w_args : argsFit about1.vm theMethod args0 = true := by decide +kernel
set_option maxRecDepth 65536 in
theorem w_heap : heapFits about1 = true := by decide +kernel
set_option maxRecDepth 65536 in
theorem w_runnable : about1.curStatus? = some .runnable := by decide +kernel
set_option maxRecDepth 65536 in
theorem w_alone : about1.alone = true := by decide +kernel
set_option maxRecDepth 65536 in
theorem w_named : about1.methodNamed? x = some theMethod := by decide +kernel
set_option maxRecDepth 65536 in
theorem w_hears : about1.hears theMethod below0 = true := by decide +kernel
set_option maxRecDepth 65536 in
theorem w_ripe : about1.ripe theMethod args0 below0 = true := by decide +kernel
theorem w_running : about1.status = .running := rfl
set_option maxRecDepth 65536 in
theorem w_room : about1.hasRoom e0.platform room_1 = true :=
  launch0.hasRoom_least _ room_1 (by decide +kernel) (by decide +kernel) (by decide +kernel) (by decide +kernel) (by decide +kernel) (by decide +kernel)
theorem allAtoms_all (ts : List Jvm.Cond) (a : Array Jvm.Value) (st : Jvm.State) : (allAtoms ts).before a st = ts.all (fun c => c.before a st) := by
  induction ts with
  | nil => rfl
  | cons c t ih =>
    show (Jvm.Cond.and c (allAtoms t)).before a st = _
    rw [Jvm.Cond.before_and, ih, List.all_cons]
def words1 : List Jvm.Cond := Jvm.Cond.code x code maxLocals ret :: tables_1
/-- a 'code' word, met by the world's own term for the bytes: nothing is compared byte by byte -/
theorem code_word {y : MethodName} {bytes : ByteArray} {mx : Nat} {rt : Option FieldType} {a : Array Value} {s : State} {m : MethodId} {meth : Method} {c : Code} (h1 : s.methodNamed? y = some m) (h2 : s.vm.method? m = some meth) (h3 : meth.code = some c) (h4 : c.code = bytes)
    (h5 : (c.maxLocals == mx && c.exceptionTable.isEmpty && decide (c.maxStack ≤ mostOperands) && decide (meth.sig.returnType = rt) && !meth.locks && decide (parseMethodDescriptor y.desc = some meth.sig)) = true) : (Jvm.Cond.code y bytes mx rt).before a s = true := by
  simp only [Bool.and_eq_true, beq_iff_eq, Bool.not_eq_true', decide_eq_true_eq] at h5
  obtain ⟨⟨⟨⟨⟨g1, g2⟩, g3⟩, g4⟩, g5⟩, g6⟩ := h5
  simp [Cond.before, Cond.holds, Cond.value, h1, h2, h3, h4, g1, g2, g3, g4, g5, g6]
def isCode : Jvm.Cond → Bool
  | .code _ _ _ _ => true
  | _ => false
theorem all_split {L : List Jvm.Cond} {P : Jvm.Cond → Bool} (h1 : L.all (fun c => isCode c || P c) = true) (h2 : ∀ c ∈ L.filter isCode, P c = true) : L.all P = true := by
  refine List.all_eq_true.mpr fun c hc => ?_
  have h := List.all_eq_true.mp h1 c hc
  rcases Bool.eq_false_or_eq_true (isCode c) with hi | hi
  · exact h2 c (List.mem_filter.mpr ⟨hc, hi⟩)
  · simpa [hi] using h
set_option maxRecDepth 65536 in
theorem w_c0 : (Jvm.Cond.code x code maxLocals ret).before args0 about1 = true := code_word (m := ⟨1, 2⟩) (meth := k1m2) (c := k1c2) (by decide +kernel) rfl rfl rfl (by decide +kernel)
set_option maxRecDepth 65536 in
theorem w_c1 : (Jvm.Cond.code ({ cls := "com/example/firstfail/firstfail/pairwise/Pairs", name := "<init>", desc := "([I)V" } : Jvm.MethodName) prog_31_method_1_code (11 : Nat) (Option.none : Option Jvm.ClassFile.FieldType)).before args0 about1 = true := code_word (m := ⟨2, 0⟩) (meth := k2m0) (c := k2c0) (by decide +kernel) rfl rfl rfl (by decide +kernel)
set_option maxRecDepth 65536 in
theorem w_c2 : (Jvm.Cond.code ({ cls := "java/lang/Object", name := "<init>", desc := "()V" } : Jvm.MethodName) object_method_1_code (1 : Nat) (Option.none : Option Jvm.ClassFile.FieldType)).before args0 about1 = true := code_word (m := ⟨0, 0⟩) (meth := k0m0) (c := k0c0) (by decide +kernel) rfl rfl rfl (by decide +kernel)
set_option maxRecDepth 65536 in
theorem w_c3 : (Jvm.Cond.code ({ cls := "com/example/firstfail/firstfail/pairwise/Pairs", name := "cover", desc := "(II)V" } : Jvm.MethodName) prog_31_method_3_code (3 : Nat) (Option.none : Option Jvm.ClassFile.FieldType)).before args0 about1 = true := code_word (m := ⟨2, 1⟩) (meth := k2m1) (c := k2c1) (by decide +kernel) rfl rfl rfl (by decide +kernel)
set_option maxRecDepth 65536 in
theorem w_c4 : (Jvm.Cond.code ({ cls := "com/example/firstfail/firstfail/pairwise/Pairs", name := "set", desc := "([JII)V" } : Jvm.MethodName) prog_31_method_8_code (6 : Nat) (Option.none : Option Jvm.ClassFile.FieldType)).before args0 about1 = true := code_word (m := ⟨2, 3⟩) (meth := k2m3) (c := k2c3) (by decide +kernel) rfl rfl rfl (by decide +kernel)
set_option maxRecDepth 65536 in
theorem w_c5 : (Jvm.Cond.code ({ cls := "com/example/firstfail/firstfail/pairwise/Pairs", name := "bit", desc := "(II)J" } : Jvm.MethodName) prog_31_method_9_code (5 : Nat) (Option.some Jvm.ClassFile.FieldType.long)).before args0 about1 = true := code_word (m := ⟨2, 4⟩) (meth := k2m4) (c := k2c4) (by decide +kernel) rfl rfl rfl (by decide +kernel)
set_option maxRecDepth 65536 in
theorem w_c6 : (Jvm.Cond.code ({ cls := "java/lang/Math", name := "min", desc := "(II)I" } : Jvm.MethodName) jdk_29_method_69_code (2 : Nat) (Option.some Jvm.ClassFile.FieldType.int)).before args0 about1 = true := code_word (m := ⟨3, 2⟩) (meth := k3m2) (c := k3c2) (by decide +kernel) rfl rfl rfl (by decide +kernel)
set_option maxRecDepth 65536 in
theorem w_c7 : (Jvm.Cond.code ({ cls := "java/lang/Math", name := "max", desc := "(II)I" } : Jvm.MethodName) jdk_29_method_65_code (2 : Nat) (Option.some Jvm.ClassFile.FieldType.int)).before args0 about1 = true := code_word (m := ⟨3, 1⟩) (meth := k3m1) (c := k3c1) (by decide +kernel) rfl rfl rfl (by decide +kernel)
set_option maxRecDepth 65536 in
theorem w_c8 : (Jvm.Cond.code ({ cls := "com/example/firstfail/firstfail/pairwise/Pairs", name := "countUncovered", desc := "(II[I)V" } : Jvm.MethodName) prog_31_method_4_code (11 : Nat) (Option.none : Option Jvm.ClassFile.FieldType)).before args0 about1 = true := code_word (m := ⟨2, 2⟩) (meth := k2m2) (c := k2c2) (by decide +kernel) rfl rfl rfl (by decide +kernel)
set_option maxRecDepth 65536 in
theorem w_c9 : (Jvm.Cond.code ({ cls := "java/lang/Long", name := "numberOfTrailingZeros", desc := "(J)I" } : Jvm.MethodName) jdk_35_method_49_code (3 : Nat) (Option.some Jvm.ClassFile.FieldType.int)).before args0 about1 = true := code_word (m := ⟨9, 0⟩) (meth := k9m0) (c := k9c0) (by decide +kernel) rfl rfl rfl (by decide +kernel)
set_option maxRecDepth 65536 in
theorem w_c10 : (Jvm.Cond.code ({ cls := "java/lang/Integer", name := "numberOfTrailingZeros", desc := "(I)I" } : Jvm.MethodName) jdk_33_method_48_code (2 : Nat) (Option.some Jvm.ClassFile.FieldType.int)).before args0 about1 = true := code_word (m := ⟨10, 0⟩) (meth := k10m0) (c := k10c0) (by decide +kernel) rfl rfl rfl (by decide +kernel)
set_option maxRecDepth 65536 in
theorem w_c11 : (Jvm.Cond.code ({ cls := "com/example/firstfail/firstfail/pairwise/PairsCountUncoveredPinLaw", name := "uncovered", desc := "(IIIIII)Z" } : Jvm.MethodName) method_2_code (6 : Nat) (Option.some Jvm.ClassFile.FieldType.boolean)).before args0 about1 = true := code_word (m := ⟨1, 1⟩) (meth := k1m1) (c := k1c1) (by decide +kernel) rfl rfl rfl (by decide +kernel)
def codes1 : List Jvm.Cond := [Jvm.Cond.code x code maxLocals ret, Jvm.Cond.code ({ cls := "com/example/firstfail/firstfail/pairwise/Pairs", name := "<init>", desc := "([I)V" } : Jvm.MethodName) prog_31_method_1_code (11 : Nat) (Option.none : Option Jvm.ClassFile.FieldType), Jvm.Cond.code ({ cls := "java/lang/Object", name := "<init>", desc := "()V" } : Jvm.MethodName) object_method_1_code (1 : Nat) (Option.none : Option Jvm.ClassFile.FieldType), Jvm.Cond.code ({ cls := "com/example/firstfail/firstfail/pairwise/Pairs", name := "cover", desc := "(II)V" } : Jvm.MethodName) prog_31_method_3_code (3 : Nat) (Option.none : Option Jvm.ClassFile.FieldType), Jvm.Cond.code ({ cls := "com/example/firstfail/firstfail/pairwise/Pairs", name := "set", desc := "([JII)V" } : Jvm.MethodName) prog_31_method_8_code (6 : Nat) (Option.none : Option Jvm.ClassFile.FieldType), Jvm.Cond.code ({ cls := "com/example/firstfail/firstfail/pairwise/Pairs", name := "bit", desc := "(II)J" } : Jvm.MethodName) prog_31_method_9_code (5 : Nat) (Option.some Jvm.ClassFile.FieldType.long), Jvm.Cond.code ({ cls := "java/lang/Math", name := "min", desc := "(II)I" } : Jvm.MethodName) jdk_29_method_69_code (2 : Nat) (Option.some Jvm.ClassFile.FieldType.int), Jvm.Cond.code ({ cls := "java/lang/Math", name := "max", desc := "(II)I" } : Jvm.MethodName) jdk_29_method_65_code (2 : Nat) (Option.some Jvm.ClassFile.FieldType.int), Jvm.Cond.code ({ cls := "com/example/firstfail/firstfail/pairwise/Pairs", name := "countUncovered", desc := "(II[I)V" } : Jvm.MethodName) prog_31_method_4_code (11 : Nat) (Option.none : Option Jvm.ClassFile.FieldType), Jvm.Cond.code ({ cls := "java/lang/Long", name := "numberOfTrailingZeros", desc := "(J)I" } : Jvm.MethodName) jdk_35_method_49_code (3 : Nat) (Option.some Jvm.ClassFile.FieldType.int), Jvm.Cond.code ({ cls := "java/lang/Integer", name := "numberOfTrailingZeros", desc := "(I)I" } : Jvm.MethodName) jdk_33_method_48_code (2 : Nat) (Option.some Jvm.ClassFile.FieldType.int), Jvm.Cond.code ({ cls := "com/example/firstfail/firstfail/pairwise/PairsCountUncoveredPinLaw", name := "uncovered", desc := "(IIIIII)Z" } : Jvm.MethodName) method_2_code (6 : Nat) (Option.some Jvm.ClassFile.FieldType.boolean)]
set_option maxRecDepth 65536 in
theorem codes_eq : words1.filter isCode = codes1 := rfl
theorem w_codes : ∀ c ∈ words1.filter isCode, c.before args0 about1 = true := by
  rw [codes_eq]
  intro c hc
  simp only [codes1, List.mem_cons, List.not_mem_nil, or_false] at hc
  rcases hc with rfl | rfl | rfl | rfl | rfl | rfl | rfl | rfl | rfl | rfl | rfl | rfl
  · exact w_c0
  · exact w_c1
  · exact w_c2
  · exact w_c3
  · exact w_c4
  · exact w_c5
  · exact w_c6
  · exact w_c7
  · exact w_c8
  · exact w_c9
  · exact w_c10
  · exact w_c11
set_option maxRecDepth 65536 in
theorem w_t1 : (words1.take 24).all (fun c => isCode c || c.before args0 about1) = true := by decide +kernel
set_option maxRecDepth 65536 in
theorem w_t2 : ((words1.drop 24).take 24).all (fun c => isCode c || c.before args0 about1) = true := by decide +kernel
set_option maxRecDepth 65536 in
theorem w_t3 : ((words1.drop 24).drop 24).all (fun c => isCode c || c.before args0 about1) = true := by decide +kernel
theorem w_tables : (allAtoms (Jvm.Cond.code x code maxLocals ret :: tables_1)).before args0 about1 = true := by
  rw [allAtoms_all]
  show words1.all (fun c => c.before args0 about1) = true
  refine all_split ?_ w_codes
  rw [← List.take_append_drop 24 words1, List.all_append, w_t1, ← List.take_append_drop 24 (words1.drop 24), List.all_append, w_t2, w_t3]
  rfl
set_option maxRecDepth 65536 in
theorem w_case : (Jvm.Cond.and given_1 narrow_1).before args0 about1 = true := by decide +kernel
theorem w_applies : (headSpec (Jvm.Cond.code x code maxLocals ret :: tables_1) room_1).applies x e0.platform about1 = true :=
  (Spec.applies_iff w_frames).mpr ⟨w_running, w_runnable, w_alone, w_named, w_hears, w_ripe, w_room, w_tables⟩
theorem atStart : AtStart classFile x code maxLocals ret World_1 tables_1 room_1 Calls_1 rest_1 Pre_1 launch0 p0 e0 about1 theMethod args0 below0 :=
  ⟨lists_1, trivial, launch0.admits_env _ _ _, launch0.least_env, fairChoices_fair.cas, fairChoices_fair.clock, w_frames, w_args, w_heap, w_applies, trivial, trivial, w_case⟩
end start1
theorem witness_1 : WitnessClaimed_1 := ⟨start1.p0, start1.e0, start1.about1, start1.theMethod, start1.args0, start1.below0, start1.atStart⟩
end Jvm.Pilot.@@N@@
