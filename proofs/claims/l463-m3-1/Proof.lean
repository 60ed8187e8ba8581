import JvmDerived
import JvmDerived.Pilot.@@N@@Statement
import JvmDerived.Pilot.@@N@@Code
set_option linter.unusedVariables false
set_option linter.unusedSimpArgs false
namespace Jvm.OwnKit
open Sem ClassFile Op Lib Jvm.Stand Jvm.Free Jvm.LawKit Jvm.RoadKit
theorem irem_mod (x y : Int32) : x - x / y * y = x % y := by
  have hm : (x % y).toInt = x.toInt - x.toInt.tdiv y.toInt * y.toInt := by
    rw [Int32.toInt_mod, Int.tmod_def, Int.mul_comm]
  have hb := Int32.toInt_lt (x % y)
  have hl := Int32.le_toInt (x % y)
  have e : (x - x / y * y).toInt = (x % y).toInt.bmod (2 ^ 32) := by
    rw [hm, Int32.toInt_sub, Int32.toInt_mul, Int32.toInt_div, Int.sub_bmod_bmod, Int.sub_eq_add_neg, Int.sub_eq_add_neg]
    rw [← Int.add_bmod_bmod, ← Int.add_bmod_bmod (y := -(x.toInt.tdiv y.toInt * y.toInt))]
    congr 2
    rw [← Int.neg_mul, ← Int.neg_mul]
    rw [← Int.bmod_mul_bmod, Int.bmod_neg_bmod, Int.bmod_mul_bmod]
  apply Int32.toInt_inj.mp
  rw [e]
  exact Int.bmod_eq_of_le_mul_two (by omega) (by omega)
/-- what a body's end says -/
def Done (s : State) (below : List Frame) (Q : Option Value → Heap → List Loc → Prop) (C S : Nat) (t : State) (o : Outcome) : Prop :=
  t.status = .running ∧ Ended t below o ∧ ∃ v L, o = .returned v ∧ Q v t.heap L ∧ FrameEnd s o t L C S
/-- from here the run ends as asked -/
def Go (tb : Tables) (e : Env) (below : List Frame) (s : State) (Q : Option Value → Heap → List Loc → Prop) (C S : Nat) (A : State) : Prop :=
  ∃ t o, Steps tb e below A t ∧ Done s below Q C S t o
theorem Go.of {tb : Tables} {e : Env} {below : List Frame} {s : State} {Q : Option Value → Heap → List Loc → Prop} {C S : Nat} {A B : State}
    (g : ∀ t, Steps tb e below B t → Steps tb e below A t) (h : Go tb e below s Q C S B) : Go tb e below s Q C S A := by
  obtain ⟨t, o, h1, h2⟩ := h
  exact ⟨t, o, g t h1, h2⟩
theorem Go.push {tb : Tables} {e : Env} {below : List Frame} {s : State} {Q : Option Value → Heap → List Loc → Prop} {C S : Nat} {T : State} {m : MethodId} {pc pc' : Nat} {Ls : Array Slot} {v : Value} {st : List Value} (hp : pc = pc') (h : Go tb e below s Q C S (T.setTop (mkF m pc' Ls (v :: st)))) : Go tb e below s Q C S (T.setTop (mkF m pc Ls ((some v).toList ++ st))) := hp ▸ h
theorem Go.void {tb : Tables} {e : Env} {below : List Frame} {s : State} {Q : Option Value → Heap → List Loc → Prop} {C S : Nat} {T : State} {m : MethodId} {pc pc' : Nat} {Ls : Array Slot} {st : List Value} (hp : pc = pc') (h : Go tb e below s Q C S (T.setTop (mkF m pc' Ls st))) : Go tb e below s Q C S (T.setTop (mkF m pc Ls ((none : Option Value).toList ++ st))) := hp ▸ h
theorem Go.join {tb : Tables} {e : Env} {below : List Frame} {s : State} {Q : Option Value → Heap → List Loc → Prop} {C S : Nat} {A : State} {α : Type} {P : α → Prop} {F : α → State}
    (h1 : ∀ x, P x → Go tb e below s Q C S (F x)) (h2 : (∀ x, P x → Go tb e below s Q C S (F x)) → Go tb e below s Q C S A) : Go tb e below s Q C S A := h2 h1
theorem Go.loop {tb : Tables} {e : Env} {below : List Frame} {s : State} {Q : Option Value → Heap → List Loc → Prop} {C S : Nat} {α : Type} {P : Nat → α → Prop} {F : α → State}
    (h : ∀ k x, P k x → (∀ j y, j < k → P j y → Go tb e below s Q C S (F y)) → Go tb e below s Q C S (F x)) : ∀ k x, P k x → Go tb e below s Q C S (F x) := by
  intro k
  induction k using Nat.strongRecOn with
  | ind k ih => exact fun x hp => h k x hp fun j y hj hy => ih j hj y hy
section Ret
variable {p : Program} {l : Launch} {e : Env} {R : Room} {s : State} {m : MethodId} {args : Array Value} {below : List Frame} {meth : Method} {c : Code} {T : State} {locs : List Loc} {cells slots : Nat} {Q : Option Value → Heap → List Loc → Prop} {C S : Nat}
theorem Go.retV (X : Stand p l e R s m args below meth c T locs cells slots) (hx : p.tables.exec = Jvm.exec) (hlk : meth.locks = false) {pc : Nat} {Ls : Array Slot} {st : List Value} (hret : meth.sig.returnType = none)
    (hd : decode c.code pc = .ok (.return_, 1)) (hs : st = []) (hc : cells ≤ C) (hn : slots ≤ S) (hq : Q none T.heap locs) : Go p.tables e below s Q C S (T.setTop (mkF m pc Ls st)) := by
  subst hs
  obtain ⟨fs, hr, hrun, hended, hW, hsame⟩ := X.leave (v := none) (fun _ => rfl)
  exact ⟨_, _, X.returnOut hx hret hd hr, hrun, hended, _, _, rfl, hq, ⟨_, rfl⟩, hW, hsame.mono hc hn⟩
theorem Go.retW (X : Stand p l e R s m args below meth c T locs cells slots) (hx : p.tables.exec = Jvm.exec) (hlk : meth.locks = false) {pc : Nat} {Ls : Array Slot} {w : Value} {t : FieldType} {i : Instr} {rest : List Value}
    (hret : meth.sig.returnType = some t) (hn : narrow t w = w)
    (hi : (i = .ireturn ∧ (t = .int ∨ t = .boolean ∨ t = .byte ∨ t = .char ∨ t = .short) ∧ ∃ z, w = .int z) ∨ (i = .lreturn ∧ t = .long ∧ ∃ z, w = .long z) ∨ (i = .dreturn ∧ t = .double ∧ ∃ z, w = .double z) ∨ (i = .freturn ∧ t = .float ∧ ∃ z, w = .float z) ∨ (i = .areturn ∧ t.isReference = true ∧ w.isRef = true))
    (hd : decode c.code pc = .ok (i, 1)) (hc : cells ≤ C) (hsl : slots ≤ S) (hq : Q (some w) T.heap locs) : Go p.tables e below s Q C S (T.setTop (mkF m pc Ls (w :: rest))) := by
  obtain ⟨fs, hr, hrun, hended, hW, hsame⟩ := X.leave (v := some w) (fun h => by rw [hret] at h; cases h)
  exact ⟨_, _, retOut X hx hret hn hi hd hr, hrun, hended, _, _, rfl, hq, ⟨_, rfl⟩, hW, hsame.mono hc hsl⟩
theorem Go.retI (X : Stand p l e R s m args below meth c T locs cells slots) (hx : p.tables.exec = Jvm.exec) (hlk : meth.locks = false) {pc : Nat} {Ls : Array Slot} {z : Int32} {rest : List Value}
    (hret : meth.sig.returnType = some .int) (hd : decode c.code pc = .ok (.ireturn, 1)) (hc : cells ≤ C) (hsl : slots ≤ S) (hq : Q (some (.int z)) T.heap locs) : Go p.tables e below s Q C S (T.setTop (mkF m pc Ls (.int z :: rest))) :=
  Go.retW X hx hlk hret rfl (Or.inl ⟨rfl, Or.inl rfl, _, rfl⟩) hd hc hsl hq
theorem Go.retZ (X : Stand p l e R s m args below meth c T locs cells slots) (hx : p.tables.exec = Jvm.exec) (hlk : meth.locks = false) {pc : Nat} {Ls : Array Slot} {z : Int32} {rest : List Value} {t : FieldType}
    (hret : meth.sig.returnType = some t) (ht : t = .boolean ∨ t = .byte ∨ t = .char ∨ t = .short) (hd : decode c.code pc = .ok (.ireturn, 1)) (hc : cells ≤ C) (hsl : slots ≤ S) (hq : Q (some (.int (nar t z))) T.heap locs) : Go p.tables e below s Q C S (T.setTop (mkF m pc Ls (.int z :: rest))) := by
  obtain ⟨fs, hr, hrun, hended, hW, hsame⟩ := X.leave (v := some (.int (nar t z))) (fun h => by rw [hret] at h; cases h)
  exact ⟨_, _, retN X hx hret ht hd hr, hrun, hended, _, _, rfl, hq, ⟨_, rfl⟩, hW, hsame.mono hc hsl⟩
theorem Go.retL (X : Stand p l e R s m args below meth c T locs cells slots) (hx : p.tables.exec = Jvm.exec) (hlk : meth.locks = false) {pc : Nat} {Ls : Array Slot} {z : Int64} {rest : List Value}
    (hret : meth.sig.returnType = some .long) (hd : decode c.code pc = .ok (.lreturn, 1)) (hc : cells ≤ C) (hsl : slots ≤ S) (hq : Q (some (.long z)) T.heap locs) : Go p.tables e below s Q C S (T.setTop (mkF m pc Ls (.long z :: rest))) :=
  Go.retW X hx hlk hret rfl (Or.inr (Or.inl ⟨rfl, rfl, _, rfl⟩)) hd hc hsl hq
theorem Go.retA (X : Stand p l e R s m args below meth c T locs cells slots) (hx : p.tables.exec = Jvm.exec) (hlk : meth.locks = false) {pc : Nat} {Ls : Array Slot} {w : Value} {rest : List Value} {t : FieldType}
    (hret : meth.sig.returnType = some t) (ht : t.isReference = true) (hw : w.isRef = true) (hd : decode c.code pc = .ok (.areturn, 1)) (hc : cells ≤ C) (hsl : slots ≤ S) (hq : Q (some w) T.heap locs) : Go p.tables e below s Q C S (T.setTop (mkF m pc Ls (w :: rest))) :=
  Go.retW X hx hlk hret (by cases t <;> first | rfl | (simp [FieldType.isReference] at ht)) (Or.inr (Or.inr (Or.inr (Or.inr ⟨rfl, ht, hw⟩)))) hd hc hsl hq
end Ret
/-- the contract of a body, by its walk -/
theorem meet {l : Launch} {Z : State} {y : MethodName} {bytes : ByteArray} {maxL : Nat} {ret : Option FieldType} {ws : List Cond} {rm : Room} {as : Array Value} {Ls : Array Slot} {h0 : Heap} {Q : Option Value → Heap → List Loc → Prop}
    (hpl : plainFor y = true) (ef : ∀ m, entryFrame m as maxL = mkF m 0 Ls [])
    (body : ∀ (p : Program) (e : Env) (s : State) (m : MethodId) (below : List Frame) (meth : Method) (c : Code) (T : State), p.tables.exec = Jvm.exec → c.code = bytes → c.maxLocals = maxL → Z.Warmed39 s.vm → s.vm.findClass y.cls = some m.cls → meth.name = y.name →
      meth.sig.returnType = ret → meth.locks = false → Stand p l e rm s m as below meth c T [] 0 0 → T.heap = h0 → Go p.tables e below s Q rm.cells rm.slots (T.setTop (mkF m 0 Ls []))) :
    MetFree l y (head1 (Cond.code y bytes maxL ret :: ws) rm) (fun a U => a = as ∧ Z.Warmed39 U.vm ∧ U.heap = h0) (fun _ _ _ _ _ => True) (fun _ U o U' => ∃ v L, o = .returned v ∧ Q v U'.heap L ∧ FrameEnd U o U' L rm.cells rm.slots) := by
  refine MetFree.of_bodySF hpl hisR ?_
  intro p e s m args below meth c s₁ Bd hml0 hP hK
  obtain ⟨rfl, hZ, hh⟩ := hP
  obtain ⟨t, o, h1, h2, h3, h4⟩ := body p e s m below meth c s₁ Bd.exec Bd.bytes hml0 hZ (findClass_of_methodNamed Bd.named) (name_of_methodNamed Bd.named Bd.method).1 Bd.returns Bd.notSynchronized (Stand.of_body Bd) (by rw [← hh, Bd.state]; rfl)
  exact ⟨t, o, castTop (ef m) h1, h2, h3, h4⟩
/-- what a callee's contract says -/
abbrev Con (l : Launch) (Z : State) (y : MethodName) (bytes : ByteArray) (maxL : Nat) (ret : Option FieldType) (rm : Room) (as : Array Value) (h0 : Heap) (Q : Option Value → Heap → List Loc → Prop) : Prop :=
  MetFree l y (head1 [Cond.code y bytes maxL ret] rm) (fun a U => a = as ∧ Z.Warmed39 U.vm ∧ U.heap = h0) (fun _ _ _ _ _ => True) (fun _ U o U' => ∃ v L, o = .returned v ∧ Q v U'.heap L ∧ FrameEnd U o U' L rm.cells rm.slots)
section Call
variable {p : Program} {l : Launch} {e : Env} {R : Room} {s : State} {m : MethodId} {args : Array Value} {below : List Frame} {meth : Method} {c : Code} {T : State} {locs : List Loc} {cells slots : Nat} {Q : Option Value → Heap → List Loc → Prop} {C S : Nat} {Z : State} {a0 : Array Value} {h : Heap}
theorem Go.callS (X : Stand p l e R s m args below meth c T locs cells slots) (hx : p.tables.exec = Jvm.exec) (hZ : Z.Warmed39 s.vm) {own : String} {index : Nat} {y : MethodName} {bytes : ByteArray} {maxL : Nat} {ret : Option FieldType} {rm : Room} {Q' : Option Value → Heap → List Loc → Prop}
    (hown : s.vm.findClass own = some m.cls) (w1 : (Cond.methodLink own index y).before a0 Z = true) (w2 : (Cond.static y).before a0 Z = true) (w3 : (Cond.initialized y.cls).before a0 Z = true)
    (w4 : (Cond.code y bytes maxL ret).before a0 Z = true) (hy : y.cls ≠ "java/lang/invoke/MethodHandle" ∧ y.cls ≠ "java/lang/invoke/VarHandle")
    (eT : T.heap = h) {pc : Nat} {Ls : Array Slot} {argsL rest st : List Value} {W : Nat} {ps : List FieldType} (hM : Con l Z y bytes maxL ret rm argsL.toArray h Q') (hd : decode c.code pc = .ok (.invokestatic index, 3))
    (hsz : Ls.size = c.maxLocals) (hst : st = argsL.reverse ++ rest) (hpd : parseMethodDescriptor y.desc = some ⟨ps, ret⟩) (hlen : argsL.length = ps.length) (hW : (rest.map fun v => v.category).sum = W)
    (hf : rm.frames + 1 ≤ R.frames) (hl : W + (maxL + 11) + rm.locals ≤ R.locals) (hc : cells + rm.cells ≤ R.cells) (hn : slots + rm.slots ≤ R.slots)
    (k : ∀ (v : Option Value) (T' : State) (L' : List Loc), Stand p l e R s m args below meth c T' (locs ++ L') (cells + rm.cells) (slots + rm.slots) → Q' v T'.heap L' → Go p.tables e below s Q C S (T'.setTop (mkF m (pc + 3) Ls (v.toList ++ rest)))) :
    Go p.tables e below s Q C S (T.setTop (mkF m pc Ls st)) := by
  obtain ⟨v, _, ⟨T', L', kc, kn⟩, -, X', ⟨Lc, hQ, l3, y3, z3⟩, st⟩ := Jvm.LawKit.callS X hx hown (mvT hZ w1) (mvT hZ w2) (mvT hZ w3) (mvT hZ w4) hy (backOf (W := W) hM hZ w4 w3 hf hl) (g := mkF m pc Ls st) rfl hsz (argsL := argsL) (rest := rest) (lenOf hpd hlen) hst (by show 2 * 0 + _ ≤ _; rw [hW]; omega) hd (fun _ _ => ⟨rfl, eT, hc, hn⟩)
  dsimp only [Pt.U, Pt.locs, Pt.cells, Pt.slots] at X' l3 y3 z3 st hQ
  subst l3 y3 z3
  exact Go.of st (k v T' Lc X' hQ)
theorem Go.callI (X : Stand p l e R s m args below meth c T locs cells slots) (hx : p.tables.exec = Jvm.exec) (hZ : Z.Warmed39 s.vm) {own : String} {index : Nat} {y : MethodName} {bytes : ByteArray} {maxL : Nat} {rm : Room} {Q' : Option Value → Heap → List Loc → Prop}
    (hown : s.vm.findClass own = some m.cls) (hy1 : y.name = "<init>") (w1 : (Cond.methodLink own index y).before a0 Z = true) (w2 : (Cond.instanceMethod y).before a0 Z = true) (w3 : (Cond.initialized y.cls).before a0 Z = true)
    (w4 : (Cond.code y bytes maxL none).before a0 Z = true) (hy : y.cls ≠ "java/lang/invoke/MethodHandle" ∧ y.cls ≠ "java/lang/invoke/VarHandle")
    (eT : T.heap = h) {pc : Nat} {Ls : Array Slot} {a : Addr} {argsL rest st : List Value} {W : Nat} {ps : List FieldType} (hM : Con l Z y bytes maxL none rm (.ref a :: argsL).toArray h Q') (hd : decode c.code pc = .ok (.invokespecial index, 3))
    (hsz : Ls.size = c.maxLocals) (hst : st = argsL.reverse ++ .ref a :: rest) (hpd : parseMethodDescriptor y.desc = some ⟨ps, none⟩) (hlen : argsL.length = ps.length) (hW : (rest.map fun v => v.category).sum = W)
    (hf : rm.frames + 1 ≤ R.frames) (hl : W + (maxL + 11) + rm.locals ≤ R.locals) (hc : cells + rm.cells ≤ R.cells) (hn : slots + rm.slots ≤ R.slots)
    (k : ∀ (v : Option Value) (T' : State) (L' : List Loc), Stand p l e R s m args below meth c T' (locs ++ L') (cells + rm.cells) (slots + rm.slots) → Q' v T'.heap L' → Go p.tables e below s Q C S (T'.setTop (mkF m (pc + 3) Ls (v.toList ++ rest)))) :
    Go p.tables e below s Q C S (T.setTop (mkF m pc Ls st)) := by
  obtain ⟨v, _, ⟨T', L', kc, kn⟩, -, X', ⟨Lc, hQ, l3, y3, z3⟩, st⟩ := X.specialBack hx hy1 hown (mvT hZ w1) (mvT hZ w2) (mvT hZ w4) hy (backOf (W := W) hM hZ w4 w3 hf hl) (g := mkF m pc Ls st) rfl hsz (Steps.refl _) (a := a) (argsL := argsL) (rest := rest) (lenOf hpd hlen) hst (by show 2 * 0 + _ ≤ _; rw [hW]; omega) hd (fun _ _ => ⟨rfl, eT, hc, hn⟩)
  dsimp only [Pt.U, Pt.locs, Pt.cells, Pt.slots] at X' l3 y3 z3 st hQ
  subst l3 y3 z3
  exact Go.of (fun _ q => st.trans q) (k v T' Lc X' hQ)
theorem Go.callV (X : Stand p l e R s m args below meth c T locs cells slots) (hx : p.tables.exec = Jvm.exec) (hZ : Z.Warmed39 s.vm) {own K : String} {index : Nat} {y z : MethodName} {bytes : ByteArray} {maxL : Nat} {ret : Option FieldType} {rm : Room} {Q' : Option Value → Heap → List Loc → Prop}
    (hown : s.vm.findClass own = some m.cls) (w1 : (Cond.methodLink own index y).before a0 Z = true) (w2 : (Cond.declares y).before a0 Z = true) (nf : NotFace s y) (w5 : (Cond.selects K y z).before a0 Z = true) (w6 : (Cond.instanceMethod z).before a0 Z = true) (w3 : (Cond.initialized z.cls).before a0 Z = true)
    (w4 : (Cond.code z bytes maxL ret).before a0 Z = true) (hy : y.cls ≠ "java/lang/invoke/MethodHandle" ∧ y.cls ≠ "java/lang/invoke/VarHandle")
    (eT : T.heap = h) {pc : Nat} {Ls : Array Slot} {a : Addr} {argsL rest st : List Value} {W : Nat} {ps : List FieldType} {rt : Option FieldType} (E : Exa Z h a K) (hM : Con l Z z bytes maxL ret rm (.ref a :: argsL).toArray h Q') (hd : decode c.code pc = .ok (.invokevirtual index, 3))
    (hsz : Ls.size = c.maxLocals) (hst : st = argsL.reverse ++ .ref a :: rest) (hpd : parseMethodDescriptor y.desc = some ⟨ps, rt⟩) (hlen : argsL.length = ps.length) (hW : (rest.map fun v => v.category).sum = W)
    (hf : rm.frames + 1 ≤ R.frames) (hl : W + (maxL + 11) + rm.locals ≤ R.locals) (hc : cells + rm.cells ≤ R.cells) (hn : slots + rm.slots ≤ R.slots)
    (k : ∀ (v : Option Value) (T' : State) (L' : List Loc), Stand p l e R s m args below meth c T' (locs ++ L') (cells + rm.cells) (slots + rm.slots) → Q' v T'.heap L' → Go p.tables e below s Q C S (T'.setTop (mkF m (pc + 3) Ls (v.toList ++ rest)))) :
    Go p.tables e below s Q C S (T.setTop (mkF m pc Ls st)) := by
  obtain ⟨cq, kq, qa, qb, qc⟩ := isOf hZ eT E
  obtain ⟨v, _, ⟨T', L', kc, kn⟩, -, X', ⟨Lc, hQ, l3, y3, z3⟩, st⟩ := X.virtualBack hx (y := y) (z := z) hown (mvT hZ w1) (mvT hZ w2) nf (mvT hZ w5) (mvT hZ w6) hy (backOf (W := W) hM hZ w4 w3 hf hl) qa qc (g := mkF m pc Ls st) rfl hsz (Steps.refl _) (argsL := argsL) (rest := rest) (lenOf hpd hlen) hst (by show 2 * 0 + _ ≤ _; rw [hW]; omega) hd (fun _ _ => ⟨rfl, eT, hc, hn⟩)
  dsimp only [Pt.U, Pt.locs, Pt.cells, Pt.slots] at X' l3 y3 z3 st hQ
  subst l3 y3 z3
  exact Go.of (fun _ q => st.trans q) (k v T' Lc X' hQ)
/-- a private method by invokevirtual -/
theorem Go.callP (X : Stand p l e R s m args below meth c T locs cells slots) (hx : p.tables.exec = Jvm.exec) (hZ : Z.Warmed39 s.vm) {own K : String} {index : Nat} {y : MethodName} {bytes : ByteArray} {maxL : Nat} {ret : Option FieldType} {rm : Room} {Q' : Option Value → Heap → List Loc → Prop}
    (hown : s.vm.findClass own = some m.cls) (w1 : (Cond.methodLink own index y).before a0 Z = true) (w6 : (Cond.instanceMethod y).before a0 Z = true) {kk : Nat} (w5 : (Cond.instantiable y.cls kk).before a0 Z = true) (w7 : (Cond.privateMethod y).before a0 Z = true) (w3 : (Cond.initialized y.cls).before a0 Z = true)
    (w4 : (Cond.code y bytes maxL ret).before a0 Z = true) (hy : y.cls ≠ "java/lang/invoke/MethodHandle" ∧ y.cls ≠ "java/lang/invoke/VarHandle")
    (eT : T.heap = h) {pc : Nat} {Ls : Array Slot} {a : Addr} {argsL rest st : List Value} {W : Nat} {ps : List FieldType} {rt : Option FieldType} (E : Exa Z h a K) (hM : Con l Z y bytes maxL ret rm (.ref a :: argsL).toArray h Q') (hd : decode c.code pc = .ok (.invokevirtual index, 3))
    (hsz : Ls.size = c.maxLocals) (hst : st = argsL.reverse ++ .ref a :: rest) (hpd : parseMethodDescriptor y.desc = some ⟨ps, rt⟩) (hlen : argsL.length = ps.length) (hW : (rest.map fun v => v.category).sum = W)
    (hf : rm.frames + 1 ≤ R.frames) (hl : W + (maxL + 11) + rm.locals ≤ R.locals) (hc : cells + rm.cells ≤ R.cells) (hn : slots + rm.slots ≤ R.slots)
    (k : ∀ (v : Option Value) (T' : State) (L' : List Loc), Stand p l e R s m args below meth c T' (locs ++ L') (cells + rm.cells) (slots + rm.slots) → Q' v T'.heap L' → Go p.tables e below s Q C S (T'.setTop (mkF m (pc + 3) Ls (v.toList ++ rest)))) :
    Go p.tables e below s Q C S (T.setTop (mkF m pc Ls st)) := by
  obtain ⟨cq, q1, q2⟩ := E.cell
  obtain ⟨c2, k2, i1, i2, -, i4, -⟩ := Cond.instantiable_spec (mvT (args := args) hZ w5)
  have hpv : s.PrivateAt y := Cond.privateMethod_at (mvP hZ w7 (args := #[]))
  have hsel : (Cond.selects y.cls y y).before args s = true := selects_self_of_private i1 i2 (by simpa using (Bool.or_eq_false_iff.mp i4).1) hpv (mvT hZ w6) hy
  obtain ⟨v, _, ⟨T', L', kc, kn⟩, -, X', ⟨Lc, hQ, l3, y3, z3⟩, st⟩ := X.privateBack hx (y := y) hown (mvT hZ w1) (mvT hZ w6) hsel hpv (mvT hZ w4) hy (backOf (W := W) hM hZ w4 w3 hf hl) (g := mkF m pc Ls st) rfl hsz (Steps.refl _) (a := a) (by rw [eT]; exact q1) q2 (argsL := argsL) (rest := rest) (lenOf hpd hlen) hst (by show 2 * 0 + _ ≤ _; rw [hW]; omega) hd (fun _ _ => ⟨rfl, eT, hc, hn⟩)
  dsimp only [Pt.U, Pt.locs, Pt.cells, Pt.slots] at X' l3 y3 z3 st hQ
  subst l3 y3 z3
  exact Go.of (fun _ q => st.trans q) (k v T' Lc X' hQ)
end Call
/-- an array of n places, place i holding f i -/
def ArF (Z : State) (h : Heap) (a : Addr) (ty : FieldType) (n : Nat) (f : Nat → Value) : Prop :=
  ∃ cl : Cell, Arr Z h a cl ty ∧ cl.slots.size = n ∧ n < 2 ^ 31 ∧ (∀ i, i < n → cl.slots[i]? = some (f i)) ∧ ∀ i, i < n → fits ty (f i) = true
def upV (f : Nat → Value) (j : Nat) (v : Value) (i : Nat) : Value := if i = j then v else f i
def upI (f : Nat → Int32) (j : Nat) (v : Int32) (i : Nat) : Int32 := if i = j then v else f i
def upJ (f : Nat → Int64) (j : Nat) (v : Int64) (i : Nat) : Int64 := if i = j then v else f i
def upD (f : Nat → UInt64) (j : Nat) (v : UInt64) (i : Nat) : UInt64 := if i = j then v else f i
section ArF
variable {Z : State} {h h' : Heap} {a b : Addr} {ty : FieldType} {n : Nat} {f : Nat → Value} {sl : Nat} {v : Value} {ws : List Addr}
theorem ArF.lt (F : ArF Z h a ty n f) : a < h.size := by obtain ⟨c, A, -⟩ := F; exact A.lt
theorem ArF.ext (F : ArF Z h a ty n f) (E : Ext h h') : ArF Z h' a ty n f := by obtain ⟨c, A, r⟩ := F; exact ⟨c, A.ext E, r⟩
theorem ArF.other (F : ArF Z h b ty n f) (W : Wr h h' a sl v) (q : b ≠ a) : ArF Z h' b ty n f := by obtain ⟨c, A, r⟩ := F; exact ⟨c, A.other W q, r⟩
theorem ArF.keep (F : ArF Z h a ty n f) (K : Keep h h' ws) (q : a ∉ ws) : ArF Z h' a ty n f := by obtain ⟨c, A, r⟩ := F; exact ⟨c, ⟨K.2.1 a c A.1 q, A.2⟩, r⟩
theorem ArF.len (F : ArF Z h a ty n f) : n < 2 ^ 31 := by obtain ⟨c, A, r1, r2, -⟩ := F; exact r2
theorem ArF.fit (F : ArF Z h a ty n f) {i : Nat} (hi : i < n) : fits ty (f i) = true := by obtain ⟨c, A, r1, r2, r3, r4⟩ := F; exact r4 i hi
theorem ArF.congr {g : Nat → Value} (F : ArF Z h a ty n f) (q : ∀ i, i < n → g i = f i) : ArF Z h a ty n g := by
  obtain ⟨c, A, r1, r2, r3, r4⟩ := F
  exact ⟨c, A, r1, r2, fun i hi => by rw [q i hi]; exact r3 i hi, fun i hi => by rw [q i hi]; exact r4 i hi⟩
theorem ArF.new {k : ClassId} {z : Int32} (A : Arr Z h a (newA k ty z) ty) (hn : ¬ z < 0) (hz : z.toNatClampNeg = n) : ArF Z h a ty n (fun _ => defaultValue ty) := by
  subst hz
  refine ⟨_, A, sz_new _ _ _, (back32 hn).2, fun i hi => ?_, fun i hi => by cases ty <;> rfl⟩
  simp [newA, hi]
theorem ArF.set {x : Nat} (F : ArF Z h a ty n f) (hv : fits ty v = true) (W : Wr h h' a x v) : ArF Z h' a ty n (upV f x v) := by
  obtain ⟨c, A, r1, r2, r3, r4⟩ := F
  refine ⟨_, A.same W, by simp [Cell.setSlot, r1], r2, fun i hi => ?_, fun i hi => ?_⟩
  · by_cases e : i = x
    · subst e; simp [upV, Cell.setSlot, r1, hi]
    · simp only [upV, e, if_false, Cell.setSlot]
      rw [Array.getElem?_setIfInBounds_ne (Ne.symm e)]; exact r3 i hi
  · by_cases e : i = x
    · simp [upV, e, hv]
    · simp only [upV, e, if_false]; exact r4 i hi
theorem ArF.arv (F : ArF Z h a ty n f) (d : Value) : ∃ k, Arv Z h a k ty n.toInt32 ((List.range n).map f) d := by
  obtain ⟨c, A, r1, r2, r3, r4⟩ := F
  have hz : (n.toInt32).toInt = n := len_toInt r2
  have hz0 : (0 : Int32).toInt = 0 := rfl
  have hg : ∀ i, i < n → ((List.range n).map f).getD i d = f i := fun i hi => by simp [List.getD, hi]
  refine ⟨c.cls, c, A, rfl, ?_, by rw [Int32.lt_iff_toInt_lt]; omega, fun i hi => ?_, fun i hi => ?_⟩
  · rw [r1, Int32.toNatClampNeg]; omega
  · rw [r1] at hi; rw [hg i hi]; exact r3 i hi
  · rw [r1] at hi; rw [hg i hi]; exact r4 i hi
theorem arF_of_arv {k : ClassId} {z : Int32} {vs : List Value} {d : Value} (F : Arv Z h a k ty z vs d) : ArF Z h a ty z.toNatClampNeg (fun i => vs.getD i d) := by
  obtain ⟨c, A, -, r2, r3, r4, r5⟩ := F
  exact ⟨c, A, r2, (back32 r3).2, fun i hi => r4 i (by rw [r2]; exact hi), fun i hi => r5 i (by rw [r2]; exact hi)⟩
/-- n places of f from sp on, laid over f' from dp on -/
def cpF (f f' : Nat → Value) (sp dp nn : Nat) (i : Nat) : Value := if dp ≤ i ∧ i < dp + nn then f (sp + (i - dp)) else f' i
def cpT {α : Type} (f f' : Nat → α) (sp dp nn : Nat) (i : Nat) : α := if dp ≤ i ∧ i < dp + nn then f (sp + (i - dp)) else f' i
theorem ArF.cpI {g g' : Nat → Int32} {x y z : Nat} (F : ArF Z h a ty n (cpF (fun i => .int (g i)) (fun i => .int (g' i)) x y z)) : ArF Z h a ty n (fun i => .int (cpT g g' x y z i)) := F.congr fun i _ => by simp only [cpF, cpT]; split <;> rfl
theorem ArF.cpJ {g g' : Nat → Int64} {x y z : Nat} (F : ArF Z h a ty n (cpF (fun i => .long (g i)) (fun i => .long (g' i)) x y z)) : ArF Z h a ty n (fun i => .long (cpT g g' x y z i)) := F.congr fun i _ => by simp only [cpF, cpT]; split <;> rfl
theorem ArF.cpD {g g' : Nat → UInt64} {x y z : Nat} (F : ArF Z h a ty n (cpF (fun i => .double (g i)) (fun i => .double (g' i)) x y z)) : ArF Z h a ty n (fun i => .double (cpT g g' x y z i)) := F.congr fun i _ => by simp only [cpF, cpT]; split <;> rfl
theorem nat_idx {j : Int32} {k : Nat} (hj : j.toInt = (k : Int)) : j.toNatClampNeg = k := by simp only [Int32.toNatClampNeg]; omega
theorem in_idx {j : Int32} {k : Nat} {c : Cell} (hj : j.toInt = (k : Int)) (hk : k < n) (e : c.slots.size = n) : ¬ (j < 0 ∨ c.slots.size ≤ j.toNatClampNeg) := by
  rw [nat_idx hj, e, Int32.lt_iff_toInt_lt]
  have : (0 : Int32).toInt = 0 := rfl
  omega
end ArF
section ArrSteps
variable {p : Program} {l : Launch} {e : Env} {R : Room} {s : State} {m : MethodId} {args : Array Value} {below : List Frame} {meth : Method} {c : Code} {T : State} {locs : List Loc} {cells slots : Nat} {Q : Option Value → Heap → List Loc → Prop} {C S : Nat} {Z : State} {a0 : Array Value} {h : Heap} {a : Addr} {n : Nat} {j : Int32} {pc pc' : Nat} {Ls : Array Slot} {rest : List Value}
theorem Go.alen (X : Stand p l e R s m args below meth c T locs cells slots) (hx : p.tables.exec = Jvm.exec) (hZ : Z.Warmed39 s.vm) (eT : T.heap = h) {ty : FieldType} {f : Nat → Value} (F : ArF Z h a ty n f) {z : Int32} (hz : n.toInt32 = z) (hd : decode c.code pc = .ok (.arraylength, 1)) (hp : pc + 1 = pc')
    (kk : Go p.tables e below s Q C S (T.setTop (mkF m pc' Ls (.int z :: rest)))) : Go p.tables e below s Q C S (T.setTop (mkF m pc Ls (.ref a :: rest))) := by
  subst hp hz
  obtain ⟨cl, A, r1, r2, -⟩ := F
  subst r1
  exact Go.of (fun t q => X.arraylength hx (by rw [eT]; exact A.1) (State.isArrayOf_alike hZ.alike A.2.1) (g := mkF m pc Ls (.ref a :: rest)) rfl rfl hd t q) kk
theorem Go.iaload (X : Stand p l e R s m args below meth c T locs cells slots) (hx : p.tables.exec = Jvm.exec) (hZ : Z.Warmed39 s.vm) (eT : T.heap = h) {f : Nat → Int32} (F : ArF Z h a .int n (fun i => .int (f i))) {k : Nat} (hj : j.toInt = (k : Int)) (hk : k < n) {v : Int32} (hv : f k = v) (hd : decode c.code pc = .ok (.iaload, 1)) (hp : pc + 1 = pc')
    (kk : Go p.tables e below s Q C S (T.setTop (mkF m pc' Ls (.int v :: rest)))) : Go p.tables e below s Q C S (T.setTop (mkF m pc Ls (.int j :: .ref a :: rest))) := by
  subst hp hv
  obtain ⟨cl, A, r1, r2, r3, -⟩ := F
  exact Go.of (fun t q => X.iaload hx (j := j) (v := .int (f k)) (by rw [eT]; exact A.1) (State.isArrayOf_alike hZ.alike A.2.1) A.2.2 (in_idx hj hk r1) (by rw [nat_idx hj, r3 _ hk]) (g := mkF m pc Ls (.int j :: .ref a :: rest)) rfl rfl hd t q) kk
theorem Go.laload (X : Stand p l e R s m args below meth c T locs cells slots) (hx : p.tables.exec = Jvm.exec) (hZ : Z.Warmed39 s.vm) (eT : T.heap = h) {f : Nat → Int64} (F : ArF Z h a .long n (fun i => .long (f i))) {k : Nat} (hj : j.toInt = (k : Int)) (hk : k < n) {v : Int64} (hv : f k = v) (hd : decode c.code pc = .ok (.laload, 1)) (hp : pc + 1 = pc')
    (kk : Go p.tables e below s Q C S (T.setTop (mkF m pc' Ls (.long v :: rest)))) : Go p.tables e below s Q C S (T.setTop (mkF m pc Ls (.int j :: .ref a :: rest))) := by
  subst hp hv
  obtain ⟨cl, A, r1, r2, r3, -⟩ := F
  exact Go.of (fun t q => X.laload hx (j := j) (v := .long (f k)) (by rw [eT]; exact A.1) (State.isArrayOf_alike hZ.alike A.2.1) A.2.2 (in_idx hj hk r1) (by rw [nat_idx hj, r3 _ hk]) (g := mkF m pc Ls (.int j :: .ref a :: rest)) rfl rfl hd t q) kk
theorem Go.baload (X : Stand p l e R s m args below meth c T locs cells slots) (hx : p.tables.exec = Jvm.exec) (hZ : Z.Warmed39 s.vm) (eT : T.heap = h) {f : Nat → Int32} (F : ArF Z h a .byte n (fun i => .int (f i))) {k : Nat} (hj : j.toInt = (k : Int)) (hk : k < n) {v : Int32} (hv : f k = v) (hd : decode c.code pc = .ok (.baload, 1)) (hp : pc + 1 = pc')
    (kk : Go p.tables e below s Q C S (T.setTop (mkF m pc' Ls (.int v :: rest)))) : Go p.tables e below s Q C S (T.setTop (mkF m pc Ls (.int j :: .ref a :: rest))) := by
  subst hp hv
  obtain ⟨cl, A, r1, r2, r3, -⟩ := F
  exact Go.of (fun t q => X.baloadBytes hx (j := j) (v := .int (f k)) (by rw [eT]; exact A.1) (State.isArrayOf_alike hZ.alike A.2.1) A.2.2 (in_idx hj hk r1) (by rw [nat_idx hj, r3 _ hk]) (g := mkF m pc Ls (.int j :: .ref a :: rest)) rfl rfl hd t q) kk
theorem Go.daload (X : Stand p l e R s m args below meth c T locs cells slots) (hx : p.tables.exec = Jvm.exec) (hZ : Z.Warmed39 s.vm) (eT : T.heap = h) {f : Nat → UInt64} (F : ArF Z h a .double n (fun i => .double (f i))) {k : Nat} (hj : j.toInt = (k : Int)) (hk : k < n) {v : UInt64} (hv : f k = v) (hd : decode c.code pc = .ok (.daload, 1)) (hp : pc + 1 = pc')
    (kk : Go p.tables e below s Q C S (T.setTop (mkF m pc' Ls (.double v :: rest)))) : Go p.tables e below s Q C S (T.setTop (mkF m pc Ls (.int j :: .ref a :: rest))) := by
  subst hp hv
  obtain ⟨cl, A, r1, r2, r3, -⟩ := F
  exact Go.of (fun t q => X.daload hx (j := j) (v := .double (f k)) (by rw [eT]; exact A.1) (State.isArrayOf_alike hZ.alike A.2.1) A.2.2 (in_idx hj hk r1) (by rw [nat_idx hj, r3 _ hk]) (g := mkF m pc Ls (.int j :: .ref a :: rest)) rfl rfl hd t q) kk
theorem Go.aaload (X : Stand p l e R s m args below meth c T locs cells slots) (hx : p.tables.exec = Jvm.exec) (hZ : Z.Warmed39 s.vm) (eT : T.heap = h) {ty : FieldType} {f : Nat → Value} (F : ArF Z h a ty n f) (hty : ty.isReference = true) {k : Nat} (hj : j.toInt = (k : Int)) (hk : k < n) {v : Value} (hv : f k = v) (hd : decode c.code pc = .ok (.aaload, 1)) (hp : pc + 1 = pc')
    (kk : Go p.tables e below s Q C S (T.setTop (mkF m pc' Ls (v :: rest)))) : Go p.tables e below s Q C S (T.setTop (mkF m pc Ls (.int j :: .ref a :: rest))) := by
  subst hp
  obtain ⟨cl, A, r1, r2, r3, -⟩ := F
  exact Go.of (fun t q => X.aaload hx (j := j) (v := v) (by rw [eT]; exact A.1) (State.isArrayOf_alike hZ.alike A.2.1) hty A.2.2 (in_idx hj hk r1) (by rw [nat_idx hj, r3 _ hk, hv]) (g := mkF m pc Ls (.int j :: .ref a :: rest)) rfl rfl hd t q) kk
theorem Go.iastore (X : Stand p l e R s m args below meth c T locs cells slots) (hx : p.tables.exec = Jvm.exec) (hZ : Z.Warmed39 s.vm) (eT : T.heap = h) {f : Nat → Int32} (F : ArF Z h a .int n (fun i => .int (f i))) {x : Int32} {k : Nat} (hj : j.toInt = (k : Int)) (hk : k < n) (hd : decode c.code pc = .ok (.iastore, 1)) (hp : pc + 1 = pc')
    (kk : ∀ T' h', Stand p l e R s m args below meth c T' (locs ++ [⟨a, k⟩]) cells slots → T'.heap = h' → Wr h h' a k (.int x) → ArF Z h' a .int n (fun i => .int (upI f k x i)) → Go p.tables e below s Q C S (T'.setTop (mkF m pc' Ls rest))) : Go p.tables e below s Q C S (T.setTop (mkF m pc Ls (.int x :: .int j :: .ref a :: rest))) := by
  subst hp
  obtain ⟨cl, A, r1, r2, r3, r4⟩ := F
  obtain ⟨T', h', X', e', W, st⟩ := stI X hx hZ eT A (j := j) (in_idx hj hk r1) (g := mkF m pc Ls (.int x :: .int j :: .ref a :: rest)) rfl rfl hd
  rw [nat_idx hj] at X' W
  exact Go.of st (kk T' h' X' e' W ((ArF.set ⟨cl, A, r1, r2, r3, r4⟩ rfl W).congr fun i _ => by simp only [upV, upI]; split <;> rfl))
theorem Go.lastore (X : Stand p l e R s m args below meth c T locs cells slots) (hx : p.tables.exec = Jvm.exec) (hZ : Z.Warmed39 s.vm) (eT : T.heap = h) {f : Nat → Int64} (F : ArF Z h a .long n (fun i => .long (f i))) {x : Int64} {k : Nat} (hj : j.toInt = (k : Int)) (hk : k < n) (hd : decode c.code pc = .ok (.lastore, 1)) (hp : pc + 1 = pc')
    (kk : ∀ T' h', Stand p l e R s m args below meth c T' (locs ++ [⟨a, k⟩]) cells slots → T'.heap = h' → Wr h h' a k (.long x) → ArF Z h' a .long n (fun i => .long (upJ f k x i)) → Go p.tables e below s Q C S (T'.setTop (mkF m pc' Ls rest))) : Go p.tables e below s Q C S (T.setTop (mkF m pc Ls (.long x :: .int j :: .ref a :: rest))) := by
  subst hp
  obtain ⟨cl, A, r1, r2, r3, r4⟩ := F
  obtain ⟨T', h', X', e', W, st⟩ := stJ X hx hZ eT A (j := j) (in_idx hj hk r1) (g := mkF m pc Ls (.long x :: .int j :: .ref a :: rest)) rfl rfl hd
  rw [nat_idx hj] at X' W
  exact Go.of st (kk T' h' X' e' W ((ArF.set ⟨cl, A, r1, r2, r3, r4⟩ rfl W).congr fun i _ => by simp only [upV, upJ]; split <;> rfl))
theorem Go.bastore (X : Stand p l e R s m args below meth c T locs cells slots) (hx : p.tables.exec = Jvm.exec) (hZ : Z.Warmed39 s.vm) (eT : T.heap = h) {f : Nat → Int32} (F : ArF Z h a .byte n (fun i => .int (f i))) {x : Int32} {k : Nat} (hj : j.toInt = (k : Int)) (hk : k < n) (hd : decode c.code pc = .ok (.bastore, 1)) (hp : pc + 1 = pc')
    (kk : ∀ T' h', Stand p l e R s m args below meth c T' (locs ++ [⟨a, k⟩]) cells slots → T'.heap = h' → Wr h h' a k (.int (nar .byte x)) → ArF Z h' a .byte n (fun i => .int (upI f k (nar .byte x) i)) → Go p.tables e below s Q C S (T'.setTop (mkF m pc' Ls rest))) : Go p.tables e below s Q C S (T.setTop (mkF m pc Ls (.int x :: .int j :: .ref a :: rest))) := by
  subst hp
  obtain ⟨cl, A, r1, r2, r3, r4⟩ := F
  obtain ⟨T', h', X', e', W, st⟩ := stB X hx hZ eT A (j := j) (in_idx hj hk r1) (g := mkF m pc Ls (.int x :: .int j :: .ref a :: rest)) rfl rfl hd
  rw [nat_idx hj] at X' W
  exact Go.of st (kk T' h' X' e' W ((ArF.set ⟨cl, A, r1, r2, r3, r4⟩ (fits_nar_byte _) W).congr fun i _ => by simp only [upV, upI]; split <;> rfl))
theorem Go.dastore (X : Stand p l e R s m args below meth c T locs cells slots) (hx : p.tables.exec = Jvm.exec) (hZ : Z.Warmed39 s.vm) (eT : T.heap = h) {f : Nat → UInt64} (F : ArF Z h a .double n (fun i => .double (f i))) {x : UInt64} {k : Nat} (hj : j.toInt = (k : Int)) (hk : k < n) (hd : decode c.code pc = .ok (.dastore, 1)) (hp : pc + 1 = pc')
    (kk : ∀ T' h', Stand p l e R s m args below meth c T' (locs ++ [⟨a, k⟩]) cells slots → T'.heap = h' → Wr h h' a k (.double x) → ArF Z h' a .double n (fun i => .double (upD f k x i)) → Go p.tables e below s Q C S (T'.setTop (mkF m pc' Ls rest))) : Go p.tables e below s Q C S (T.setTop (mkF m pc Ls (.double x :: .int j :: .ref a :: rest))) := by
  subst hp
  obtain ⟨cl, A, r1, r2, r3, r4⟩ := F
  obtain ⟨T', h', X', e', W, st⟩ := stD X hx hZ eT A (j := j) (in_idx hj hk r1) (g := mkF m pc Ls (.double x :: .int j :: .ref a :: rest)) rfl rfl hd
  rw [nat_idx hj] at X' W
  exact Go.of st (kk T' h' X' e' W ((ArF.set ⟨cl, A, r1, r2, r3, r4⟩ rfl W).congr fun i _ => by simp only [upV, upD]; split <;> rfl))
theorem Go.newarr (X : Stand p l e R s m args below meth c T locs cells slots) (hx : p.tables.exec = Jvm.exec) (hZ : Z.Warmed39 s.vm) {aty : ArrayType} {ty : FieldType} (hty : newarray.typeOf aty = ty) (w : (Cond.arrayClass ty).before a0 Z = true) (eT : T.heap = h) {z : Int32} (hn : ¬ z < 0) (hz : z.toNatClampNeg = n) {cap : Nat} (hcap : n ≤ cap) (hb : cap * 8 ≤ 536870912) (hc : cells + 1 ≤ R.cells) (hl : slots + cap ≤ R.slots)
    (hd : decode c.code pc = .ok (.newarray aty, 2)) (hp : pc + 2 = pc')
    (kk : ∀ T' h' b, Stand p l e R s m args below meth c T' locs (cells + 1) (slots + cap) → T'.heap = h' → Ext h h' → b = h.size → ArF Z h' b ty n (fun _ => defaultValue ty) → Go p.tables e below s Q C S (T'.setTop (mkF m pc' Ls (.ref b :: rest)))) : Go p.tables e below s Q C S (T.setTop (mkF m pc Ls (.int z :: rest))) := by
  subst hty hp
  obtain ⟨T', h', cA, X', e', E, A, st⟩ := newP X hx hZ w eT (g := mkF m pc Ls (.int z :: rest)) rfl hd rfl hn (cap := cap) (by omega) hb hc hl
  exact Go.of st (kk T' h' h.size X' e' E rfl (ArF.new A hn hz))
theorem Go.arraycopy (X : Stand p l e R s m args below meth c T locs cells slots) (hx : p.tables.exec = Jvm.exec) (hZ : Z.Warmed39 s.vm) {own : String} {index : Nat} (hown : s.vm.findClass own = some m.cls)
    (w1 : (Cond.methodLink own index Jvm.Stand.acN).before a0 Z = true) (w2 : (Cond.native Jvm.Stand.acN).before a0 Z = true) (w3 : (Cond.static Jvm.Stand.acN).before a0 Z = true) (w4 : (Cond.initialized "java/lang/System").before a0 Z = true) (eT : T.heap = h)
    {ty : FieldType} {b : Addr} {n' : Nat} {f f' : Nat → Value} (A : ArF Z h a ty n f) (B : ArF Z h b ty n' f') (hty : refKind ty = false) {sp dp nn : Int32} {ks kd kn : Nat} (h1 : sp.toInt = (ks : Int)) (h2 : dp.toInt = (kd : Int)) (h3 : nn.toInt = (kn : Int)) (h4 : ks + kn ≤ n) (h5 : kd + kn ≤ n') {n0 : Nat} (N : Fr n0 locs) (ge : n0 ≤ b)
    (hsz : Ls.size = c.maxLocals) (hd : decode c.code pc = .ok (.invokestatic index, 3)) (hp : pc + 3 = pc') (hf : 1 ≤ R.frames) {W : Nat} (hW : (rest.map fun v => v.category).sum = W) (hlo : W + (nativeFrameWords "java/lang/System" "arraycopy" 5 + 11) ≤ R.locals)
    (kk : ∀ T' h' L, Stand p l e R s m args below meth c T' L cells slots → T'.heap = h' → Fr n0 L → Keep h h' [b] → ArF Z h' b ty n' (cpF f f' ks kd kn) → Go p.tables e below s Q C S (T'.setTop (mkF m pc' Ls rest))) : Go p.tables e below s Q C S (T.setTop (mkF m pc Ls (.int nn :: .int dp :: .ref b :: .int sp :: .ref a :: rest))) := by
  subst hp
  obtain ⟨k1, A'⟩ := A.arv (.int 0)
  obtain ⟨k2, B'⟩ := B.arv (.int 0)
  have e1 := nat_idx h1
  have e2 := nat_idx h2
  have e3 := nat_idx h3
  have z0 : (0 : Int32).toInt = 0 := rfl
  have zn : (n.toInt32).toNatClampNeg = n := by have := len_toInt A.len; rw [Int32.toNatClampNeg]; omega
  have zn' : (n'.toInt32).toNatClampNeg = n' := by have := len_toInt B.len; rw [Int32.toNatClampNeg]; omega
  obtain ⟨T', h', L, X', e', N', K, V, st⟩ := cpA X hx hZ hown w1 w2 w3 w4 eT A' B' (Or.inl ⟨rfl, hty⟩) (sp := sp) (dp := dp) (nn := nn) (by rw [Int32.lt_iff_toInt_lt]; omega) (by rw [Int32.lt_iff_toInt_lt]; omega) (by rw [Int32.lt_iff_toInt_lt]; omega) (by rw [e1, e3, zn]; exact h4) (by rw [e2, e3, zn']; exact h5) rfl (by rw [e2, e3]; simpa using h5) N ge (g := mkF m pc Ls (.int nn :: .int dp :: .ref b :: .int sp :: .ref a :: rest)) rfl hsz rfl hd hf (W := W) (by show 2 * 0 + _ ≤ _; rw [hW]; omega) hlo
  refine Go.of st (kk T' h' L X' e' N' K ?_)
  have V2 := arF_of_arv V
  rw [zn'] at V2
  refine V2.congr fun i hi => ?_
  rw [e1, e2, e3]
  simp only [cpF, List.getD]
  by_cases c1 : i < kd
  · rw [if_neg (by omega), List.append_assoc, List.getElem?_append_left (by simp; omega)]
    simp [c1, hi]
  · by_cases c2 : i < kd + kn
    · have c3 : ks + (i - kd) < n := by omega
      have c4 : i - kd < kn := by omega
      rw [if_pos ⟨by omega, c2⟩, List.append_assoc, List.getElem?_append_right (by simp; omega)]
      have c5 : (List.take kd (List.map f' (List.range n'))).length = kd := by simp; omega
      rw [c5, List.getElem?_append_left (by simpa using c4)]
      simp [c4, c3]
    · have c5 : (List.take kd (List.map f' (List.range n')) ++ List.map (fun i => ((List.map f (List.range n))[ks + i]?).getD (Value.int 0)) (List.range kn)).length = kd + kn := by simp; omega
      rw [if_neg (by omega), List.getElem?_append_right (by rw [c5]; omega), c5]
      have c6 : kd + kn + (i - (kd + kn)) = i := by omega
      simp [c6, hi]
end ArrSteps
section Steps1
variable {p : Program} {l : Launch} {e : Env} {R : Room} {s : State} {m : MethodId} {args : Array Value} {below : List Frame} {meth : Method} {c : Code} {T : State} {locs : List Loc} {cells slots : Nat} {Q : Option Value → Heap → List Loc → Prop} {C S : Nat} {bs : ByteArray} {pc pc' : Nat} {Ls : Array Slot} {st : List Value} {Z : State} {a0 : Array Value} {h : Heap} {own : String}
theorem g_iloadN (X : Stand p l e R s m args below meth c T locs cells slots) (hx : p.tables.exec = Jvm.exec) (hby : c.code = bs) {k : Fin 4} {v : Int32} (hd : decode bs pc = .ok (.iload_n k, 1)) (hp : pc + 1 = pc') (hl : Ls[k.val]? = some (.val (.int v))) (kk : Go p.tables e below s Q C S (T.setTop (mkF m pc' Ls (.int v :: st)))) : Go p.tables e below s Q C S (T.setTop (mkF m pc Ls (st))) := by
  subst hp
  exact Go.of (fun _ q => XS.iloadN X.here hx rfl (hb hby hd) hl q) kk
theorem g_iload (X : Stand p l e R s m args below meth c T locs cells slots) (hx : p.tables.exec = Jvm.exec) (hby : c.code = bs) {k : Nat} {v : Int32} (hd : decode bs pc = .ok (.iload k, 2)) (hp : pc + 2 = pc') (hl : Ls[k]? = some (.val (.int v))) (kk : Go p.tables e below s Q C S (T.setTop (mkF m pc' Ls (.int v :: st)))) : Go p.tables e below s Q C S (T.setTop (mkF m pc Ls (st))) := by
  subst hp
  exact Go.of (fun _ q => XS.iload X.here hx rfl (hb hby hd) hl q) kk
theorem g_istoreN (X : Stand p l e R s m args below meth c T locs cells slots) (hx : p.tables.exec = Jvm.exec) (hby : c.code = bs) {k : Fin 4} {v : Int32} {L' : Array Slot} (hd : decode bs pc = .ok (.istore_n k, 1)) (hp : pc + 1 = pc') (hl : storeLocals Ls k.val (.int v) = some L') (kk : Go p.tables e below s Q C S (T.setTop (mkF m pc' L' (st)))) : Go p.tables e below s Q C S (T.setTop (mkF m pc Ls (.int v :: st))) := by
  subst hp
  exact Go.of (fun _ q => XS.istoreN X.here hx rfl (hb hby hd) rfl hl q) kk
theorem g_istore (X : Stand p l e R s m args below meth c T locs cells slots) (hx : p.tables.exec = Jvm.exec) (hby : c.code = bs) {k : Nat} {v : Int32} {L' : Array Slot} (hd : decode bs pc = .ok (.istore k, 2)) (hp : pc + 2 = pc') (hl : storeLocals Ls k (.int v) = some L') (kk : Go p.tables e below s Q C S (T.setTop (mkF m pc' L' (st)))) : Go p.tables e below s Q C S (T.setTop (mkF m pc Ls (.int v :: st))) := by
  subst hp
  exact Go.of (fun _ q => XS.istore X.here hx rfl (hb hby hd) rfl hl q) kk
theorem g_iadd (X : Stand p l e R s m args below meth c T locs cells slots) (hx : p.tables.exec = Jvm.exec) (hby : c.code = bs) {x y z : Int32} (hd : decode bs pc = .ok (.iadd, 1)) (hp : pc + 1 = pc') (hz : x + y = z) (kk : Go p.tables e below s Q C S (T.setTop (mkF m pc' Ls (.int z :: st)))) : Go p.tables e below s Q C S (T.setTop (mkF m pc Ls (.int y :: .int x :: st))) := by
  subst hp; subst hz
  exact Go.of (fun _ q => XS.iadd X.here hx rfl (hb hby hd) rfl q) kk
theorem g_isub (X : Stand p l e R s m args below meth c T locs cells slots) (hx : p.tables.exec = Jvm.exec) (hby : c.code = bs) {x y z : Int32} (hd : decode bs pc = .ok (.isub, 1)) (hp : pc + 1 = pc') (hz : x - y = z) (kk : Go p.tables e below s Q C S (T.setTop (mkF m pc' Ls (.int z :: st)))) : Go p.tables e below s Q C S (T.setTop (mkF m pc Ls (.int y :: .int x :: st))) := by
  subst hp; subst hz
  exact Go.of (fun _ q => XS.isub X.here hx rfl (hb hby hd) rfl q) kk
theorem g_imul (X : Stand p l e R s m args below meth c T locs cells slots) (hx : p.tables.exec = Jvm.exec) (hby : c.code = bs) {x y z : Int32} (hd : decode bs pc = .ok (.imul, 1)) (hp : pc + 1 = pc') (hz : x * y = z) (kk : Go p.tables e below s Q C S (T.setTop (mkF m pc' Ls (.int z :: st)))) : Go p.tables e below s Q C S (T.setTop (mkF m pc Ls (.int y :: .int x :: st))) := by
  subst hp; subst hz
  exact Go.of (fun _ q => XS.imul X.here hx rfl (hb hby hd) rfl q) kk
theorem g_iand (X : Stand p l e R s m args below meth c T locs cells slots) (hx : p.tables.exec = Jvm.exec) (hby : c.code = bs) {x y z : Int32} (hd : decode bs pc = .ok (.iand, 1)) (hp : pc + 1 = pc') (hz : x &&& y = z) (kk : Go p.tables e below s Q C S (T.setTop (mkF m pc' Ls (.int z :: st)))) : Go p.tables e below s Q C S (T.setTop (mkF m pc Ls (.int y :: .int x :: st))) := by
  subst hp; subst hz
  exact Go.of (fun _ q => XS.iand X.here hx rfl (hb hby hd) rfl q) kk
theorem g_ior (X : Stand p l e R s m args below meth c T locs cells slots) (hx : p.tables.exec = Jvm.exec) (hby : c.code = bs) {x y z : Int32} (hd : decode bs pc = .ok (.ior, 1)) (hp : pc + 1 = pc') (hz : x ||| y = z) (kk : Go p.tables e below s Q C S (T.setTop (mkF m pc' Ls (.int z :: st)))) : Go p.tables e below s Q C S (T.setTop (mkF m pc Ls (.int y :: .int x :: st))) := by
  subst hp; subst hz
  exact Go.of (fun _ q => XS.ior X.here hx rfl (hb hby hd) rfl q) kk
theorem g_ixor (X : Stand p l e R s m args below meth c T locs cells slots) (hx : p.tables.exec = Jvm.exec) (hby : c.code = bs) {x y z : Int32} (hd : decode bs pc = .ok (.ixor, 1)) (hp : pc + 1 = pc') (hz : x ^^^ y = z) (kk : Go p.tables e below s Q C S (T.setTop (mkF m pc' Ls (.int z :: st)))) : Go p.tables e below s Q C S (T.setTop (mkF m pc Ls (.int y :: .int x :: st))) := by
  subst hp; subst hz
  exact Go.of (fun _ q => XS.ixor X.here hx rfl (hb hby hd) rfl q) kk
theorem g_ineg (X : Stand p l e R s m args below meth c T locs cells slots) (hx : p.tables.exec = Jvm.exec) (hby : c.code = bs) {x z : Int32} (hd : decode bs pc = .ok (.ineg, 1)) (hp : pc + 1 = pc') (hz : -x = z) (kk : Go p.tables e below s Q C S (T.setTop (mkF m pc' Ls (.int z :: st)))) : Go p.tables e below s Q C S (T.setTop (mkF m pc Ls (.int x :: st))) := by
  subst hp; subst hz
  exact Go.of (fun _ q => XS.ineg X.here hx rfl (hb hby hd) rfl q) kk
theorem g_idiv (X : Stand p l e R s m args below meth c T locs cells slots) (hx : p.tables.exec = Jvm.exec) (hby : c.code = bs) {x y z : Int32} (hd : decode bs pc = .ok (.idiv, 1)) (hp : pc + 1 = pc') (hy : y ≠ 0) (hz : x / y = z) (kk : Go p.tables e below s Q C S (T.setTop (mkF m pc' Ls (.int z :: st)))) : Go p.tables e below s Q C S (T.setTop (mkF m pc Ls (.int y :: .int x :: st))) := by
  subst hp; subst hz
  exact Go.of (fun _ q => XS.idiv X.here hx rfl (hb hby hd) rfl hy q) kk
theorem g_lloadN (X : Stand p l e R s m args below meth c T locs cells slots) (hx : p.tables.exec = Jvm.exec) (hby : c.code = bs) {k : Fin 4} {v : Int64} (hd : decode bs pc = .ok (.lload_n k, 1)) (hp : pc + 1 = pc') (hl : Ls[k.val]? = some (.val (.long v))) (kk : Go p.tables e below s Q C S (T.setTop (mkF m pc' Ls (.long v :: st)))) : Go p.tables e below s Q C S (T.setTop (mkF m pc Ls (st))) := by
  subst hp
  exact Go.of (fun _ q => XS.lloadN X.here hx rfl (hb hby hd) hl q) kk
theorem g_lload (X : Stand p l e R s m args below meth c T locs cells slots) (hx : p.tables.exec = Jvm.exec) (hby : c.code = bs) {k : Nat} {v : Int64} (hd : decode bs pc = .ok (.lload k, 2)) (hp : pc + 2 = pc') (hl : Ls[k]? = some (.val (.long v))) (kk : Go p.tables e below s Q C S (T.setTop (mkF m pc' Ls (.long v :: st)))) : Go p.tables e below s Q C S (T.setTop (mkF m pc Ls (st))) := by
  subst hp
  exact Go.of (fun _ q => XS.lload X.here hx rfl (hb hby hd) hl q) kk
theorem g_lstoreN (X : Stand p l e R s m args below meth c T locs cells slots) (hx : p.tables.exec = Jvm.exec) (hby : c.code = bs) {k : Fin 4} {v : Int64} {L' : Array Slot} (hd : decode bs pc = .ok (.lstore_n k, 1)) (hp : pc + 1 = pc') (hl : storeLocals Ls k.val (.long v) = some L') (kk : Go p.tables e below s Q C S (T.setTop (mkF m pc' L' (st)))) : Go p.tables e below s Q C S (T.setTop (mkF m pc Ls (.long v :: st))) := by
  subst hp
  exact Go.of (fun _ q => XS.lstoreN X.here hx rfl (hb hby hd) rfl hl q) kk
theorem g_lstore (X : Stand p l e R s m args below meth c T locs cells slots) (hx : p.tables.exec = Jvm.exec) (hby : c.code = bs) {k : Nat} {v : Int64} {L' : Array Slot} (hd : decode bs pc = .ok (.lstore k, 2)) (hp : pc + 2 = pc') (hl : storeLocals Ls k (.long v) = some L') (kk : Go p.tables e below s Q C S (T.setTop (mkF m pc' L' (st)))) : Go p.tables e below s Q C S (T.setTop (mkF m pc Ls (.long v :: st))) := by
  subst hp
  exact Go.of (fun _ q => XS.lstore X.here hx rfl (hb hby hd) rfl hl q) kk
theorem g_ladd (X : Stand p l e R s m args below meth c T locs cells slots) (hx : p.tables.exec = Jvm.exec) (hby : c.code = bs) {x y z : Int64} (hd : decode bs pc = .ok (.ladd, 1)) (hp : pc + 1 = pc') (hz : x + y = z) (kk : Go p.tables e below s Q C S (T.setTop (mkF m pc' Ls (.long z :: st)))) : Go p.tables e below s Q C S (T.setTop (mkF m pc Ls (.long y :: .long x :: st))) := by
  subst hp; subst hz
  exact Go.of (fun _ q => XS.ladd X.here hx rfl (hb hby hd) rfl q) kk
theorem g_lsub (X : Stand p l e R s m args below meth c T locs cells slots) (hx : p.tables.exec = Jvm.exec) (hby : c.code = bs) {x y z : Int64} (hd : decode bs pc = .ok (.lsub, 1)) (hp : pc + 1 = pc') (hz : x - y = z) (kk : Go p.tables e below s Q C S (T.setTop (mkF m pc' Ls (.long z :: st)))) : Go p.tables e below s Q C S (T.setTop (mkF m pc Ls (.long y :: .long x :: st))) := by
  subst hp; subst hz
  exact Go.of (fun _ q => XS.lsub X.here hx rfl (hb hby hd) rfl q) kk
theorem g_lmul (X : Stand p l e R s m args below meth c T locs cells slots) (hx : p.tables.exec = Jvm.exec) (hby : c.code = bs) {x y z : Int64} (hd : decode bs pc = .ok (.lmul, 1)) (hp : pc + 1 = pc') (hz : x * y = z) (kk : Go p.tables e below s Q C S (T.setTop (mkF m pc' Ls (.long z :: st)))) : Go p.tables e below s Q C S (T.setTop (mkF m pc Ls (.long y :: .long x :: st))) := by
  subst hp; subst hz
  exact Go.of (fun _ q => XS.lmul X.here hx rfl (hb hby hd) rfl q) kk
theorem g_land (X : Stand p l e R s m args below meth c T locs cells slots) (hx : p.tables.exec = Jvm.exec) (hby : c.code = bs) {x y z : Int64} (hd : decode bs pc = .ok (.land, 1)) (hp : pc + 1 = pc') (hz : x &&& y = z) (kk : Go p.tables e below s Q C S (T.setTop (mkF m pc' Ls (.long z :: st)))) : Go p.tables e below s Q C S (T.setTop (mkF m pc Ls (.long y :: .long x :: st))) := by
  subst hp; subst hz
  exact Go.of (fun _ q => XS.land X.here hx rfl (hb hby hd) rfl q) kk
theorem g_lor (X : Stand p l e R s m args below meth c T locs cells slots) (hx : p.tables.exec = Jvm.exec) (hby : c.code = bs) {x y z : Int64} (hd : decode bs pc = .ok (.lor, 1)) (hp : pc + 1 = pc') (hz : x ||| y = z) (kk : Go p.tables e below s Q C S (T.setTop (mkF m pc' Ls (.long z :: st)))) : Go p.tables e below s Q C S (T.setTop (mkF m pc Ls (.long y :: .long x :: st))) := by
  subst hp; subst hz
  exact Go.of (fun _ q => XS.lor X.here hx rfl (hb hby hd) rfl q) kk
theorem g_lxor (X : Stand p l e R s m args below meth c T locs cells slots) (hx : p.tables.exec = Jvm.exec) (hby : c.code = bs) {x y z : Int64} (hd : decode bs pc = .ok (.lxor, 1)) (hp : pc + 1 = pc') (hz : x ^^^ y = z) (kk : Go p.tables e below s Q C S (T.setTop (mkF m pc' Ls (.long z :: st)))) : Go p.tables e below s Q C S (T.setTop (mkF m pc Ls (.long y :: .long x :: st))) := by
  subst hp; subst hz
  exact Go.of (fun _ q => XS.lxor X.here hx rfl (hb hby hd) rfl q) kk
theorem g_lneg (X : Stand p l e R s m args below meth c T locs cells slots) (hx : p.tables.exec = Jvm.exec) (hby : c.code = bs) {x z : Int64} (hd : decode bs pc = .ok (.lneg, 1)) (hp : pc + 1 = pc') (hz : -x = z) (kk : Go p.tables e below s Q C S (T.setTop (mkF m pc' Ls (.long z :: st)))) : Go p.tables e below s Q C S (T.setTop (mkF m pc Ls (.long x :: st))) := by
  subst hp; subst hz
  exact Go.of (fun _ q => XS.lneg X.here hx rfl (hb hby hd) rfl q) kk
theorem g_ldiv (X : Stand p l e R s m args below meth c T locs cells slots) (hx : p.tables.exec = Jvm.exec) (hby : c.code = bs) {x y z : Int64} (hd : decode bs pc = .ok (.ldiv, 1)) (hp : pc + 1 = pc') (hy : y ≠ 0) (hz : x / y = z) (kk : Go p.tables e below s Q C S (T.setTop (mkF m pc' Ls (.long z :: st)))) : Go p.tables e below s Q C S (T.setTop (mkF m pc Ls (.long y :: .long x :: st))) := by
  subst hp; subst hz
  exact Go.of (fun _ q => XS.ldiv X.here hx rfl (hb hby hd) rfl hy q) kk
theorem g_dloadN (X : Stand p l e R s m args below meth c T locs cells slots) (hx : p.tables.exec = Jvm.exec) (hby : c.code = bs) {k : Fin 4} {v : UInt64} (hd : decode bs pc = .ok (.dload_n k, 1)) (hp : pc + 1 = pc') (hl : Ls[k.val]? = some (.val (.double v))) (kk : Go p.tables e below s Q C S (T.setTop (mkF m pc' Ls (.double v :: st)))) : Go p.tables e below s Q C S (T.setTop (mkF m pc Ls (st))) := by
  subst hp
  exact Go.of (fun _ q => XS.dloadN X.here hx rfl (hb hby hd) hl q) kk
theorem g_dload (X : Stand p l e R s m args below meth c T locs cells slots) (hx : p.tables.exec = Jvm.exec) (hby : c.code = bs) {k : Nat} {v : UInt64} (hd : decode bs pc = .ok (.dload k, 2)) (hp : pc + 2 = pc') (hl : Ls[k]? = some (.val (.double v))) (kk : Go p.tables e below s Q C S (T.setTop (mkF m pc' Ls (.double v :: st)))) : Go p.tables e below s Q C S (T.setTop (mkF m pc Ls (st))) := by
  subst hp
  exact Go.of (fun _ q => XS.dload X.here hx rfl (hb hby hd) hl q) kk
theorem g_dstoreN (X : Stand p l e R s m args below meth c T locs cells slots) (hx : p.tables.exec = Jvm.exec) (hby : c.code = bs) {k : Fin 4} {v : UInt64} {L' : Array Slot} (hd : decode bs pc = .ok (.dstore_n k, 1)) (hp : pc + 1 = pc') (hl : storeLocals Ls k.val (.double v) = some L') (kk : Go p.tables e below s Q C S (T.setTop (mkF m pc' L' (st)))) : Go p.tables e below s Q C S (T.setTop (mkF m pc Ls (.double v :: st))) := by
  subst hp
  exact Go.of (fun _ q => XS.dstoreN X.here hx rfl (hb hby hd) rfl hl q) kk
theorem g_dstore (X : Stand p l e R s m args below meth c T locs cells slots) (hx : p.tables.exec = Jvm.exec) (hby : c.code = bs) {k : Nat} {v : UInt64} {L' : Array Slot} (hd : decode bs pc = .ok (.dstore k, 2)) (hp : pc + 2 = pc') (hl : storeLocals Ls k (.double v) = some L') (kk : Go p.tables e below s Q C S (T.setTop (mkF m pc' L' (st)))) : Go p.tables e below s Q C S (T.setTop (mkF m pc Ls (.double v :: st))) := by
  subst hp
  exact Go.of (fun _ q => XS.dstore X.here hx rfl (hb hby hd) rfl hl q) kk
theorem g_irem (X : Stand p l e R s m args below meth c T locs cells slots) (hx : p.tables.exec = Jvm.exec) (hby : c.code = bs) {x y z : Int32} (hd : decode bs pc = .ok (.irem, 1)) (hp : pc + 1 = pc') (hy : y ≠ 0) (hz : x % y = z) (kk : Go p.tables e below s Q C S (T.setTop (mkF m pc' Ls (.int z :: st)))) : Go p.tables e below s Q C S (T.setTop (mkF m pc Ls (.int y :: .int x :: st))) := by
  subst hp; subst hz
  exact Go.of (fun _ q => XS.irem X.here hx rfl (hb hby hd) rfl hy (by rw [irem_mod]; exact q)) kk
theorem g_ishl (X : Stand p l e R s m args below meth c T locs cells slots) (hx : p.tables.exec = Jvm.exec) (hby : c.code = bs) {x z : Int32} {y : Int32} (hd : decode bs pc = .ok (.ishl, 1)) (hp : pc + 1 = pc') (hz : x <<< (y &&& 31) = z) (kk : Go p.tables e below s Q C S (T.setTop (mkF m pc' Ls (.int z :: st)))) : Go p.tables e below s Q C S (T.setTop (mkF m pc Ls (.int y :: .int x :: st))) := by
  subst hp; subst hz
  exact Go.of (fun _ q => XS.ishl X.here hx rfl (hb hby hd) rfl q) kk
theorem g_ishr (X : Stand p l e R s m args below meth c T locs cells slots) (hx : p.tables.exec = Jvm.exec) (hby : c.code = bs) {x z : Int32} {y : Int32} (hd : decode bs pc = .ok (.ishr, 1)) (hp : pc + 1 = pc') (hz : x >>> (y &&& 31) = z) (kk : Go p.tables e below s Q C S (T.setTop (mkF m pc' Ls (.int z :: st)))) : Go p.tables e below s Q C S (T.setTop (mkF m pc Ls (.int y :: .int x :: st))) := by
  subst hp; subst hz
  exact Go.of (fun _ q => XS.ishr X.here hx rfl (hb hby hd) rfl q) kk
theorem g_iushr (X : Stand p l e R s m args below meth c T locs cells slots) (hx : p.tables.exec = Jvm.exec) (hby : c.code = bs) {x z : Int32} {y : Int32} (hd : decode bs pc = .ok (.iushr, 1)) (hp : pc + 1 = pc') (hz : (x.toUInt32 >>> (y &&& 31).toUInt32).toInt32 = z) (kk : Go p.tables e below s Q C S (T.setTop (mkF m pc' Ls (.int z :: st)))) : Go p.tables e below s Q C S (T.setTop (mkF m pc Ls (.int y :: .int x :: st))) := by
  subst hp; subst hz
  exact Go.of (fun _ q => XS.iushr X.here hx rfl (hb hby hd) rfl q) kk
theorem g_lshl (X : Stand p l e R s m args below meth c T locs cells slots) (hx : p.tables.exec = Jvm.exec) (hby : c.code = bs) {x z : Int64} {y : Int32} (hd : decode bs pc = .ok (.lshl, 1)) (hp : pc + 1 = pc') (hz : x <<< (y &&& 0x3f).toInt64 = z) (kk : Go p.tables e below s Q C S (T.setTop (mkF m pc' Ls (.long z :: st)))) : Go p.tables e below s Q C S (T.setTop (mkF m pc Ls (.int y :: .long x :: st))) := by
  subst hp; subst hz
  exact Go.of (fun _ q => XS.lshl X.here hx rfl (hb hby hd) rfl q) kk
theorem g_lshr (X : Stand p l e R s m args below meth c T locs cells slots) (hx : p.tables.exec = Jvm.exec) (hby : c.code = bs) {x z : Int64} {y : Int32} (hd : decode bs pc = .ok (.lshr, 1)) (hp : pc + 1 = pc') (hz : x >>> (y &&& 0x3f).toInt64 = z) (kk : Go p.tables e below s Q C S (T.setTop (mkF m pc' Ls (.long z :: st)))) : Go p.tables e below s Q C S (T.setTop (mkF m pc Ls (.int y :: .long x :: st))) := by
  subst hp; subst hz
  exact Go.of (fun _ q => XS.lshr X.here hx rfl (hb hby hd) rfl q) kk
theorem g_lushr (X : Stand p l e R s m args below meth c T locs cells slots) (hx : p.tables.exec = Jvm.exec) (hby : c.code = bs) {x z : Int64} {y : Int32} (hd : decode bs pc = .ok (.lushr, 1)) (hp : pc + 1 = pc') (hz : (x.toUInt64 >>> (y &&& 0x3f).toInt64.toUInt64).toInt64 = z) (kk : Go p.tables e below s Q C S (T.setTop (mkF m pc' Ls (.long z :: st)))) : Go p.tables e below s Q C S (T.setTop (mkF m pc Ls (.int y :: .long x :: st))) := by
  subst hp; subst hz
  exact Go.of (fun _ q => XS.lushr X.here hx rfl (hb hby hd) rfl q) kk
theorem g_i2l (X : Stand p l e R s m args below meth c T locs cells slots) (hx : p.tables.exec = Jvm.exec) (hby : c.code = bs) {x : Int32} {z : Int64} (hd : decode bs pc = .ok (.i2l, 1)) (hp : pc + 1 = pc') (hz : x.toInt64 = z) (kk : Go p.tables e below s Q C S (T.setTop (mkF m pc' Ls (.long z :: st)))) : Go p.tables e below s Q C S (T.setTop (mkF m pc Ls (.int x :: st))) := by
  subst hp; subst hz
  exact Go.of (fun _ q => XS.i2l X.here hx rfl (hb hby hd) rfl q) kk
theorem g_l2i (X : Stand p l e R s m args below meth c T locs cells slots) (hx : p.tables.exec = Jvm.exec) (hby : c.code = bs) {x : Int64} {z : Int32} (hd : decode bs pc = .ok (.l2i, 1)) (hp : pc + 1 = pc') (hz : x.toInt32 = z) (kk : Go p.tables e below s Q C S (T.setTop (mkF m pc' Ls (.int z :: st)))) : Go p.tables e below s Q C S (T.setTop (mkF m pc Ls (.long x :: st))) := by
  subst hp; subst hz
  exact Go.of (fun _ q => XS.l2i X.here hx rfl (hb hby hd) rfl q) kk
theorem g_i2b (X : Stand p l e R s m args below meth c T locs cells slots) (hx : p.tables.exec = Jvm.exec) (hby : c.code = bs) {x : Int32} {z : Int32} (hd : decode bs pc = .ok (.i2b, 1)) (hp : pc + 1 = pc') (hz : x.toInt8.toInt32 = z) (kk : Go p.tables e below s Q C S (T.setTop (mkF m pc' Ls (.int z :: st)))) : Go p.tables e below s Q C S (T.setTop (mkF m pc Ls (.int x :: st))) := by
  subst hp; subst hz
  exact Go.of (fun _ q => XS.i2b X.here hx rfl (hb hby hd) rfl q) kk
theorem g_i2c (X : Stand p l e R s m args below meth c T locs cells slots) (hx : p.tables.exec = Jvm.exec) (hby : c.code = bs) {x : Int32} {z : Int32} (hd : decode bs pc = .ok (.i2c, 1)) (hp : pc + 1 = pc') (hz : x.toUInt32.toUInt16.toUInt32.toInt32 = z) (kk : Go p.tables e below s Q C S (T.setTop (mkF m pc' Ls (.int z :: st)))) : Go p.tables e below s Q C S (T.setTop (mkF m pc Ls (.int x :: st))) := by
  subst hp; subst hz
  exact Go.of (fun _ q => XS.i2c X.here hx rfl (hb hby hd) rfl q) kk
theorem g_i2s (X : Stand p l e R s m args below meth c T locs cells slots) (hx : p.tables.exec = Jvm.exec) (hby : c.code = bs) {x : Int32} {z : Int32} (hd : decode bs pc = .ok (.i2s, 1)) (hp : pc + 1 = pc') (hz : x.toInt16.toInt32 = z) (kk : Go p.tables e below s Q C S (T.setTop (mkF m pc' Ls (.int z :: st)))) : Go p.tables e below s Q C S (T.setTop (mkF m pc Ls (.int x :: st))) := by
  subst hp; subst hz
  exact Go.of (fun _ q => XS.i2s X.here hx rfl (hb hby hd) rfl q) kk
theorem g_lcmp (X : Stand p l e R s m args below meth c T locs cells slots) (hx : p.tables.exec = Jvm.exec) (hby : c.code = bs) {x y : Int64} (hd : decode bs pc = .ok (.lcmp, 1)) (hp : pc + 1 = pc')  (kk : Go p.tables e below s Q C S (T.setTop (mkF m pc' Ls (.int (lcmpW x y) :: st)))) : Go p.tables e below s Q C S (T.setTop (mkF m pc Ls (.long y :: .long x :: st))) := by
  subst hp
  exact Go.of (fun _ q => XS.lcmp X.here hx rfl (hb hby hd) rfl q) kk
theorem g_aloadN (X : Stand p l e R s m args below meth c T locs cells slots) (hx : p.tables.exec = Jvm.exec) (hby : c.code = bs) {k : Fin 4} {v : Value} (hd : decode bs pc = .ok (.aload_n k, 1)) (hp : pc + 1 = pc') (hl : Ls[k.val]? = some (.val v)) (hr : v.isRef = true) (kk : Go p.tables e below s Q C S (T.setTop (mkF m pc' Ls (v :: st)))) : Go p.tables e below s Q C S (T.setTop (mkF m pc Ls (st))) := by
  subst hp
  exact Go.of (fun _ q => XS.aloadN X.here hx rfl (hb hby hd) hl hr q) kk
theorem g_aload (X : Stand p l e R s m args below meth c T locs cells slots) (hx : p.tables.exec = Jvm.exec) (hby : c.code = bs) {k : Nat} {v : Value} (hd : decode bs pc = .ok (.aload k, 2)) (hp : pc + 2 = pc') (hl : Ls[k]? = some (.val v)) (hr : v.isRef = true) (kk : Go p.tables e below s Q C S (T.setTop (mkF m pc' Ls (v :: st)))) : Go p.tables e below s Q C S (T.setTop (mkF m pc Ls (st))) := by
  subst hp
  exact Go.of (fun _ q => XS.aload X.here hx rfl (hb hby hd) hl hr q) kk
theorem g_astoreN (X : Stand p l e R s m args below meth c T locs cells slots) (hx : p.tables.exec = Jvm.exec) (hby : c.code = bs) {k : Fin 4} {v : Value} {L' : Array Slot} (hd : decode bs pc = .ok (.astore_n k, 1)) (hp : pc + 1 = pc') (hr : v.isRef = true) (hl : storeLocals Ls k.val v = some L') (kk : Go p.tables e below s Q C S (T.setTop (mkF m pc' L' (st)))) : Go p.tables e below s Q C S (T.setTop (mkF m pc Ls (v :: st))) := by
  subst hp
  exact Go.of (fun _ q => XS.astoreN X.here hx rfl (hb hby hd) rfl hr hl q) kk
theorem g_astore (X : Stand p l e R s m args below meth c T locs cells slots) (hx : p.tables.exec = Jvm.exec) (hby : c.code = bs) {k : Nat} {v : Value} {L' : Array Slot} (hd : decode bs pc = .ok (.astore k, 2)) (hp : pc + 2 = pc') (hr : v.isRef = true) (hl : storeLocals Ls k v = some L') (kk : Go p.tables e below s Q C S (T.setTop (mkF m pc' L' (st)))) : Go p.tables e below s Q C S (T.setTop (mkF m pc Ls (v :: st))) := by
  subst hp
  exact Go.of (fun _ q => XS.astore X.here hx rfl (hb hby hd) rfl hr hl q) kk
theorem g_iconst (X : Stand p l e R s m args below meth c T locs cells slots) (hx : p.tables.exec = Jvm.exec) (hby : c.code = bs) {i : Int} {z : Int32} (hd : decode bs pc = .ok (.iconst i, 1)) (hp : pc + 1 = pc') (hz : Int32.ofInt i = z) (kk : Go p.tables e below s Q C S (T.setTop (mkF m pc' Ls (.int z :: st)))) : Go p.tables e below s Q C S (T.setTop (mkF m pc Ls (st))) := by
  subst hp; subst hz
  exact Go.of (fun _ q => XS.iconst X.here hx rfl (hb hby hd) q) kk
theorem g_bipush (X : Stand p l e R s m args below meth c T locs cells slots) (hx : p.tables.exec = Jvm.exec) (hby : c.code = bs) {i : Int} {z : Int32} (hd : decode bs pc = .ok (.bipush i, 2)) (hp : pc + 2 = pc') (hz : (Int8.ofInt i).toInt32 = z) (kk : Go p.tables e below s Q C S (T.setTop (mkF m pc' Ls (.int z :: st)))) : Go p.tables e below s Q C S (T.setTop (mkF m pc Ls (st))) := by
  subst hp; subst hz
  exact Go.of (fun _ q => XS.bipush X.here hx rfl (hb hby hd) q) kk
theorem g_sipush (X : Stand p l e R s m args below meth c T locs cells slots) (hx : p.tables.exec = Jvm.exec) (hby : c.code = bs) {i : Int} {z : Int32} (hd : decode bs pc = .ok (.sipush i, 3)) (hp : pc + 3 = pc') (hz : (Int16.ofInt i).toInt32 = z) (kk : Go p.tables e below s Q C S (T.setTop (mkF m pc' Ls (.int z :: st)))) : Go p.tables e below s Q C S (T.setTop (mkF m pc Ls (st))) := by
  subst hp; subst hz
  exact Go.of (fun _ q => XS.sipush X.here hx rfl (hb hby hd) q) kk
theorem g_aconst_null (X : Stand p l e R s m args below meth c T locs cells slots) (hx : p.tables.exec = Jvm.exec) (hby : c.code = bs)  (hd : decode bs pc = .ok (.aconst_null, 1)) (hp : pc + 1 = pc')  (kk : Go p.tables e below s Q C S (T.setTop (mkF m pc' Ls (.null :: st)))) : Go p.tables e below s Q C S (T.setTop (mkF m pc Ls (st))) := by
  subst hp
  exact Go.of (fun _ q => XS.aconstNull X.here hx rfl (hb hby hd) q) kk
theorem g_iinc (X : Stand p l e R s m args below meth c T locs cells slots) (hx : p.tables.exec = Jvm.exec) (hby : c.code = bs) {k : Nat} {i : Int} {x : Int32} {L' : Array Slot} (hd : decode bs pc = .ok (.iinc k i, 3)) (hp : pc + 3 = pc') (hl : Ls[k]? = some (.val (.int x))) (hl' : storeLocals Ls k (.int (x + Int32.ofInt i)) = some L') (kk : Go p.tables e below s Q C S (T.setTop (mkF m pc' L' (st)))) : Go p.tables e below s Q C S (T.setTop (mkF m pc Ls (st))) := by
  subst hp
  exact Go.of (fun _ q => XS.iinc X.here hx rfl (hb hby hd) hl hl' q) kk
theorem g_dup (X : Stand p l e R s m args below meth c T locs cells slots) (hx : p.tables.exec = Jvm.exec) (hby : c.code = bs) {v : Value} (hd : decode bs pc = .ok (.dup, 1)) (hp : pc + 1 = pc') (hc : v.category = 1) (kk : Go p.tables e below s Q C S (T.setTop (mkF m pc' Ls (v :: v :: st)))) : Go p.tables e below s Q C S (T.setTop (mkF m pc Ls (v :: st))) := by
  subst hp
  exact Go.of (fun _ q => XS.dup X.here hx rfl (hb hby hd) rfl hc q) kk
theorem g_pop (X : Stand p l e R s m args below meth c T locs cells slots) (hx : p.tables.exec = Jvm.exec) (hby : c.code = bs) {v : Value} (hd : decode bs pc = .ok (.pop, 1)) (hp : pc + 1 = pc') (hc : v.category = 1) (kk : Go p.tables e below s Q C S (T.setTop (mkF m pc' Ls (st)))) : Go p.tables e below s Q C S (T.setTop (mkF m pc Ls (v :: st))) := by
  subst hp
  exact Go.of (fun _ q => XS.pop X.here hx rfl (hb hby hd) rfl hc q) kk
theorem g_dup_x1 (X : Stand p l e R s m args below meth c T locs cells slots) (hx : p.tables.exec = Jvm.exec) (hby : c.code = bs) {v w : Value} (hd : decode bs pc = .ok (.dup_x1, 1)) (hp : pc + 1 = pc') (hc : v.category = 1) (hc' : w.category = 1) (kk : Go p.tables e below s Q C S (T.setTop (mkF m pc' Ls (v :: w :: v :: st)))) : Go p.tables e below s Q C S (T.setTop (mkF m pc Ls (v :: w :: st))) := by
  subst hp
  exact Go.of (fun _ q => XS.dupX1 X.here hx rfl (hb hby hd) rfl hc hc' q) kk
theorem g_dup2 (X : Stand p l e R s m args below meth c T locs cells slots) (hx : p.tables.exec = Jvm.exec) (hby : c.code = bs) {v w : Value} (hd : decode bs pc = .ok (.dup2, 1)) (hp : pc + 1 = pc') (hc : v.category = 1) (hc' : w.category = 1) (kk : Go p.tables e below s Q C S (T.setTop (mkF m pc' Ls (v :: w :: v :: w :: st)))) : Go p.tables e below s Q C S (T.setTop (mkF m pc Ls (v :: w :: st))) := by
  subst hp
  exact Go.of (fun _ q => Jvm.Free.XT.dup2 X.here hx rfl (hb hby hd) rfl hc hc' q) kk
theorem g_goto (X : Stand p l e R s m args below meth c T locs cells slots) (hx : p.tables.exec = Jvm.exec) (hby : c.code = bs) {o : Int} (hd : decode bs pc = .ok (.goto o, 3)) (h0 : 0 ≤ (pc : Int) + o) (hp : ((pc : Int) + o).toNat = pc') (kk : Go p.tables e below s Q C S (T.setTop (mkF m pc' Ls st))) : Go p.tables e below s Q C S (T.setTop (mkF m pc Ls st)) :=
  Go.of (fun _ q => XS.goto X.here hx rfl (pc0 := pc) (pc' := pc') rfl (hb hby hd) h0 hp q) kk
theorem g_ifYes (X : Stand p l e R s m args below meth c T locs cells slots) (hx : p.tables.exec = Jvm.exec) (hby : c.code = bs) {cd : ClassFile.Cond} {x : Int32} {o : Int} (hd : decode bs pc = .ok (.ifCond cd o, 3)) (hc : if_icmp.holds cd x 0 = true) (h0 : 0 ≤ (pc : Int) + o) (hp : ((pc : Int) + o).toNat = pc') (kk : Go p.tables e below s Q C S (T.setTop (mkF m pc' Ls st))) : Go p.tables e below s Q C S (T.setTop (mkF m pc Ls (.int x :: st))) :=
  Go.of (fun _ q => XS.ifYes X.here hx rfl (pc0 := pc) (pc' := pc') rfl (hb hby hd) rfl ((if0 _ _).trans hc) h0 hp q) kk
theorem g_ifNo (X : Stand p l e R s m args below meth c T locs cells slots) (hx : p.tables.exec = Jvm.exec) (hby : c.code = bs) {cd : ClassFile.Cond} {x : Int32} {o : Int} (hd : decode bs pc = .ok (.ifCond cd o, 3)) (hc : if_icmp.holds cd x 0 = false) (hp : pc + 3 = pc') (kk : Go p.tables e below s Q C S (T.setTop (mkF m pc' Ls st))) : Go p.tables e below s Q C S (T.setTop (mkF m pc Ls (.int x :: st))) := by
  subst hp
  exact Go.of (fun _ q => XS.ifNo X.here hx rfl (hb hby hd) rfl ((if0 _ _).trans hc) q) kk
theorem g_icmpYes (X : Stand p l e R s m args below meth c T locs cells slots) (hx : p.tables.exec = Jvm.exec) (hby : c.code = bs) {cd : ClassFile.Cond} {x y : Int32} {o : Int} (hd : decode bs pc = .ok (.if_icmp cd o, 3)) (hc : if_icmp.holds cd x y = true) (h0 : 0 ≤ (pc : Int) + o) (hp : ((pc : Int) + o).toNat = pc') (kk : Go p.tables e below s Q C S (T.setTop (mkF m pc' Ls st))) : Go p.tables e below s Q C S (T.setTop (mkF m pc Ls (.int y :: .int x :: st))) :=
  Go.of (fun _ q => XS.icmpYes X.here hx rfl (pc0 := pc) (pc' := pc') rfl (hb hby hd) rfl hc h0 hp q) kk
theorem g_icmpNo (X : Stand p l e R s m args below meth c T locs cells slots) (hx : p.tables.exec = Jvm.exec) (hby : c.code = bs) {cd : ClassFile.Cond} {x y : Int32} {o : Int} (hd : decode bs pc = .ok (.if_icmp cd o, 3)) (hc : if_icmp.holds cd x y = false) (hp : pc + 3 = pc') (kk : Go p.tables e below s Q C S (T.setTop (mkF m pc' Ls st))) : Go p.tables e below s Q C S (T.setTop (mkF m pc Ls (.int y :: .int x :: st))) := by
  subst hp
  exact Go.of (fun _ q => XS.icmpNo X.here hx rfl (hb hby hd) rfl hc q) kk
theorem g_ldcI (X : Stand p l e R s m args below meth c T locs cells slots) (hx : p.tables.exec = Jvm.exec) (hby : c.code = bs) (hZ : Z.Warmed39 s.vm) (hown : s.vm.findClass own = some m.cls) {i : Nat} {z : Int32} (w : (Cond.constant own i z).before a0 Z = true) (hd : decode bs pc = .ok (.ldc i, 2)) (hp : pc + 2 = pc') (kk : Go p.tables e below s Q C S (T.setTop (mkF m pc' Ls (.int z :: st)))) : Go p.tables e below s Q C S (T.setTop (mkF m pc Ls st)) := by
  subst hp
  exact Go.of (fun _ q => X.ldcInt hx hown (mvT hZ w) (g := mkF m pc Ls st) rfl (hb hby hd) _ q) kk
theorem g_ldcwI (X : Stand p l e R s m args below meth c T locs cells slots) (hx : p.tables.exec = Jvm.exec) (hby : c.code = bs) (hZ : Z.Warmed39 s.vm) (hown : s.vm.findClass own = some m.cls) {i : Nat} {z : Int32} (w : (Cond.constant own i z).before a0 Z = true) (hd : decode bs pc = .ok (.ldc_w i, 3)) (hp : pc + 3 = pc') (kk : Go p.tables e below s Q C S (T.setTop (mkF m pc' Ls (.int z :: st)))) : Go p.tables e below s Q C S (T.setTop (mkF m pc Ls st)) := by
  subst hp
  exact Go.of (fun _ q => X.ldcwInt hx hown (mvT hZ w) (g := mkF m pc Ls st) rfl (hb hby hd) _ q) kk
theorem g_ldcL (X : Stand p l e R s m args below meth c T locs cells slots) (hx : p.tables.exec = Jvm.exec) (hby : c.code = bs) (hZ : Z.Warmed39 s.vm) (hown : s.vm.findClass own = some m.cls) {i : Nat} {z : Int64} (w : (Cond.constantLong own i z).before a0 Z = true) (hd : decode bs pc = .ok (.ldc2_w i, 3)) (hp : pc + 3 = pc') (kk : Go p.tables e below s Q C S (T.setTop (mkF m pc' Ls (.long z :: st)))) : Go p.tables e below s Q C S (T.setTop (mkF m pc Ls st)) := by
  subst hp
  exact Go.of (fun _ q => X.ldc2Long hx hown (mvT hZ w) (g := mkF m pc Ls st) rfl (hb hby hd) _ q) kk
theorem g_ldcD (X : Stand p l e R s m args below meth c T locs cells slots) (hx : p.tables.exec = Jvm.exec) (hby : c.code = bs) (hZ : Z.Warmed39 s.vm) (hown : s.vm.findClass own = some m.cls) {i : Nat} {z : UInt64} (w : (Cond.constantDouble own i z).before a0 Z = true) (hd : decode bs pc = .ok (.ldc2_w i, 3)) (hp : pc + 3 = pc') (kk : Go p.tables e below s Q C S (T.setTop (mkF m pc' Ls (.double z :: st)))) : Go p.tables e below s Q C S (T.setTop (mkF m pc Ls st)) := by
  subst hp
  exact Go.of (fun _ q => X.ldc2DoubleC hx hown (mvT hZ w) (g := mkF m pc Ls st) rfl (hb hby hd) _ q) kk
theorem g_getf (X : Stand p l e R s m args below meth c T locs cells slots) (hx : p.tables.exec = Jvm.exec) (hby : c.code = bs) (hZ : Z.Warmed39 s.vm) {R0 O n d host : String} {i : Nat} (hown : s.vm.findClass own = some m.cls) (w : (Cond.fieldLink own i R0 n d).before a0 Z = true ∨ (Cond.fieldLinkNest own i R0 n d host).before a0 Z = true) (via : Via Z R0 O n d) (eT : T.heap = h) {a : Addr} {v : Value} (F : Fld Z h a O n d v) (hd : decode bs pc = .ok (.getfield i, 3)) (hp : pc + 3 = pc') (kk : ∀ T', Stand p l e R s m args below meth c T' locs cells slots → T'.heap = h → Go p.tables e below s Q C S (T'.setTop (mkF m pc' Ls (v :: st)))) : Go p.tables e below s Q C S (T.setTop (mkF m pc Ls (.ref a :: st))) := by
  subst hp
  obtain ⟨T', X', e', q⟩ := getF X hx hZ hown w via eT F (g := mkF m pc Ls (.ref a :: st)) rfl rfl (hb hby hd)
  exact Go.of q (kk T' X' e')
theorem g_putf (X : Stand p l e R s m args below meth c T locs cells slots) (hx : p.tables.exec = Jvm.exec) (hby : c.code = bs) (hZ : Z.Warmed39 s.vm) {R0 O n d host : String} {i : Nat} (hown : s.vm.findClass own = some m.cls) (w : (Cond.fieldLink own i R0 n d).before a0 Z = true ∨ (Cond.fieldLinkNest own i R0 n d host).before a0 Z = true) (via : Via Z R0 O n d) (eT : T.heap = h) {a : Addr} {v old : Value} {K : String} {kk' : Nat} {ty : FieldType} (F : Fld Z h a O n d old) (E : Exa Z h a K) (L : (Cond.lays K O n d).before a0 Z = true ∨ ((Cond.laysFinal K O n d).before a0 Z = true ∧ own = O ∧ meth.name = "<init>")) (wi : (Cond.instantiable K kk').before a0 Z = true) (hty : parseFieldDescriptor d = some ty) (hn : narrow ty v = v) (hf : fits ty v = true) (hd : decode bs pc = .ok (.putfield i, 3)) (hp : pc + 3 = pc')
    (kk : ∀ T' h', Stand p l e R s m args below meth c T' (locs ++ [⟨a, Jvm.RoadKit.slotOf Z O n d⟩]) cells slots → T'.heap = h' → Wr h h' a (Jvm.RoadKit.slotOf Z O n d) v → Fld Z h' a O n d v → Go p.tables e below s Q C S (T'.setTop (mkF m pc' Ls st))) : Go p.tables e below s Q C S (T.setTop (mkF m pc Ls (v :: .ref a :: st))) := by
  subst hp
  obtain ⟨T', h', X', e', W, q⟩ := putF X hx hZ hown w via eT F E L wi hty hn hf (g := mkF m pc Ls (v :: .ref a :: st)) rfl rfl (hb hby hd)
  exact Go.of q (kk T' h' X' e' W (F.same W))
theorem g_new (X : Stand p l e R s m args below meth c T locs cells slots) (hx : p.tables.exec = Jvm.exec) (hby : c.code = bs) (hZ : Z.Warmed39 s.vm) {K : String} {i n : Nat} (hown : s.vm.findClass own = some m.cls) (w : (Cond.classLink own i K).before a0 Z = true) (wi : (Cond.instantiable K n).before a0 Z = true) (wz : (Cond.initialized K).before a0 Z = true) (eT : T.heap = h) (hd : decode bs pc = .ok (.new i, 3)) (hp : pc + 3 = pc') (hc : cells + 1 ≤ R.cells) (hl : slots + n ≤ R.slots)
    (kk : ∀ T' h' b, Stand p l e R s m args below meth c T' locs (cells + 1) (slots + n) → T'.heap = h' → Ext h h' → b = h.size → Exa Z h' b K → (∀ {O nm d : String} {ty : FieldType}, Laid Z a0 K O nm d → parseFieldDescriptor d = some ty → Fld Z h' b O nm d (defaultValue ty)) → Go p.tables e below s Q C S (T'.setTop (mkF m pc' Ls (.ref b :: st)))) : Go p.tables e below s Q C S (T.setTop (mkF m pc Ls st)) := by
  subst hp
  obtain ⟨T', h', X', e', E, A, D, -, q⟩ := newO X hx hZ hown w wi wz eT (g := mkF m pc Ls st) rfl (hb hby hd) hc hl
  exact Go.of q (kk T' h' h.size X' e' E rfl A D)
theorem g_init (X : Stand p l e R s m args below meth c T locs cells slots) (hx : p.tables.exec = Jvm.exec) (hby : c.code = bs) (hZ : Z.Warmed39 s.vm) {i : Nat} (hown : s.vm.findClass own = some m.cls) (w1 : (Cond.methodLink own i Lib.objectInit).before a0 Z = true) (w2 : (Cond.instanceMethod Lib.objectInit).before a0 Z = true) (w3 : (Cond.code Lib.objectInit ⟨#[0xb1]⟩ 1 none).before a0 Z = true) (eT : T.heap = h) {a : Addr} {W : Nat} (hsz : Ls.size = c.maxLocals) (hd : decode bs pc = .ok (.invokespecial i, 3)) (hp : pc + 3 = pc') (hf : 1 ≤ R.frames) (hW : (st.map fun v => v.category).sum = W) (hl : W + 12 ≤ R.locals) (kk : ∀ T', Stand p l e R s m args below meth c T' locs cells slots → T'.heap = h → Go p.tables e below s Q C S (T'.setTop (mkF m pc' Ls st))) : Go p.tables e below s Q C S (T.setTop (mkF m pc Ls (.ref a :: st))) := by
  subst hp
  obtain ⟨T', X', e', q⟩ := initO X hx hZ hown w1 w2 w3 eT (g := mkF m pc Ls (.ref a :: st)) rfl hsz rfl (hb hby hd) hf (W := W) (by show 2 * 0 + _ ≤ _; rw [hW]; omega) hl
  exact Go.of q (kk T' X' e')
end Steps1
end Jvm.OwnKit
namespace Jvm.Pilot.@@N@@
open Jvm Jvm.ClassFile Sem Op Lib Jvm.Free Jvm.Stand Jvm.LawKit Jvm.RoadKit Jvm.OwnKit Bundle Jvm.Pilot.@@N@@.Jvm.D
theorem wi {a0 : Array Value} {Z : State} (hw : ∀ d ∈ tables_1, d.before a0 Z = true) {d : Jvm.Cond} (i : Nat) (h : tables_1[i]? = some d) : d.before a0 Z = true := hw d (List.mem_of_getElem? h)
theorem d1_0 : decode prog_12_method_1_code 0 = .ok (.aload_n 0, 1) := by decide +kernel
theorem d1_1 : decode prog_12_method_1_code 1 = .ok (.invokespecial 1, 3) := by decide +kernel
theorem d1_4 : decode prog_12_method_1_code 4 = .ok (.aload_n 0, 1) := by decide +kernel
theorem d1_5 : decode prog_12_method_1_code 5 = .ok (.iconst 0, 1) := by decide +kernel
theorem d1_6 : decode prog_12_method_1_code 6 = .ok (.newarray .int, 2) := by decide +kernel
theorem d1_8 : decode prog_12_method_1_code 8 = .ok (.putfield 7, 3) := by decide +kernel
theorem d1_11 : decode prog_12_method_1_code 11 = .ok (.aload_n 0, 1) := by decide +kernel
theorem d1_12 : decode prog_12_method_1_code 12 = .ok (.iconst 0, 1) := by decide +kernel
theorem d1_13 : decode prog_12_method_1_code 13 = .ok (.newarray .int, 2) := by decide +kernel
theorem d1_15 : decode prog_12_method_1_code 15 = .ok (.putfield 13, 3) := by decide +kernel
theorem d1_18 : decode prog_12_method_1_code 18 = .ok (.aload_n 0, 1) := by decide +kernel
theorem d1_19 : decode prog_12_method_1_code 19 = .ok (.iconst 0, 1) := by decide +kernel
theorem d1_20 : decode prog_12_method_1_code 20 = .ok (.newarray .int, 2) := by decide +kernel
theorem d1_22 : decode prog_12_method_1_code 22 = .ok (.putfield 16, 3) := by decide +kernel
theorem d1_25 : decode prog_12_method_1_code 25 = .ok (.aload_n 0, 1) := by decide +kernel
theorem d1_26 : decode prog_12_method_1_code 26 = .ok (.iconst 0, 1) := by decide +kernel
theorem d1_27 : decode prog_12_method_1_code 27 = .ok (.newarray .int, 2) := by decide +kernel
theorem d1_29 : decode prog_12_method_1_code 29 = .ok (.putfield 19, 3) := by decide +kernel
theorem d1_32 : decode prog_12_method_1_code 32 = .ok (.aload_n 0, 1) := by decide +kernel
theorem d1_33 : decode prog_12_method_1_code 33 = .ok (.iconst 0, 1) := by decide +kernel
theorem d1_34 : decode prog_12_method_1_code 34 = .ok (.newarray .double, 2) := by decide +kernel
theorem d1_36 : decode prog_12_method_1_code 36 = .ok (.putfield 22, 3) := by decide +kernel
theorem d1_39 : decode prog_12_method_1_code 39 = .ok (.aload_n 0, 1) := by decide +kernel
theorem d1_40 : decode prog_12_method_1_code 40 = .ok (.iconst 0, 1) := by decide +kernel
theorem d1_41 : decode prog_12_method_1_code 41 = .ok (.newarray .int, 2) := by decide +kernel
theorem d1_43 : decode prog_12_method_1_code 43 = .ok (.putfield 26, 3) := by decide +kernel
theorem d1_46 : decode prog_12_method_1_code 46 = .ok (.aload_n 0, 1) := by decide +kernel
theorem d1_47 : decode prog_12_method_1_code 47 = .ok (.iconst 0, 1) := by decide +kernel
theorem d1_48 : decode prog_12_method_1_code 48 = .ok (.newarray .long, 2) := by decide +kernel
theorem d1_50 : decode prog_12_method_1_code 50 = .ok (.putfield 29, 3) := by decide +kernel
theorem d1_53 : decode prog_12_method_1_code 53 = .ok (.aload_n 0, 1) := by decide +kernel
theorem d1_54 : decode prog_12_method_1_code 54 = .ok (.iload_n 1, 1) := by decide +kernel
theorem d1_55 : decode prog_12_method_1_code 55 = .ok (.putfield 33, 3) := by decide +kernel
theorem d1_58 : decode prog_12_method_1_code 58 = .ok (.return_, 1) := by decide +kernel
theorem ef_rm_init0 (m : MethodId) (x0 : Addr) : entryFrame m #[(.ref x0), (.int (0 : Int32))] 2 = mkF m 0 #[.val (.ref x0), .val (.int (0 : Int32))] [] := by first | (simp [entryFrame, mkF, argsToLocals, Value.category]; done) | rfl
theorem pn_com_example_edgewise_edgewise_EdgeSlots : plainName "com/example/edgewise/edgewise/EdgeSlots" = true := by first | (simp [plainName, overriddenIn]; done) | decide +kernel
set_option maxRecDepth 65536 in
set_option maxHeartbeats 40000000 in
theorem rm_init0 (l : Launch) (Z : State) (a0 : Array Value) (hw : ∀ d ∈ tables_1, d.before a0 Z = true) (a1 : Addr) (h0 : Heap) (n0 : Nat) (Z0 : n0 ≤ h0.size) (P0 : Exa Z h0 a1 "com/example/edgewise/edgewise/EdgeSlots") (P1 : Fld Z h0 a1 "com/example/edgewise/edgewise/EdgeSlots" "sources" "[I" .null) (P2 : Fld Z h0 a1 "com/example/edgewise/edgewise/EdgeSlots" "targets" "[I" .null) (P3 : Fld Z h0 a1 "com/example/edgewise/edgewise/EdgeSlots" "sourcePositions" "[I" .null) (P4 : Fld Z h0 a1 "com/example/edgewise/edgewise/EdgeSlots" "targetPositions" "[I" .null) (P5 : Fld Z h0 a1 "com/example/edgewise/edgewise/EdgeSlots" "weights" "[D" .null) (P6 : Fld Z h0 a1 "com/example/edgewise/edgewise/EdgeSlots" "keys" "[I" .null) (P7 : Fld Z h0 a1 "com/example/edgewise/edgewise/EdgeSlots" "keptNumbers" "[J" .null) (P8 : Fld Z h0 a1 "com/example/edgewise/edgewise/EdgeSlots" "keyed" "Z" (.int (0 : Int32))) (P9 : Fld Z h0 a1 "com/example/edgewise/edgewise/EdgeSlots" "bound" "I" (.int (0 : Int32))) (P10 : Fld Z h0 a1 "com/example/edgewise/edgewise/EdgeSlots" "count" "I" (.int (0 : Int32))) (P11 : Fld Z h0 a1 "com/example/edgewise/edgewise/EdgeSlots" "nextNumber" "J" (.long (0 : Int64))) (ge_a1 : n0 ≤ a1) :
    Con l Z (⟨"com/example/edgewise/edgewise/EdgeSlots", "<init>", "(Z)V"⟩ : MethodName) prog_12_method_1_code 2 none ({ frames := 1, cells := 7, slots := 0, locals := 12 } : Room) #[(.ref a1), (.int (0 : Int32))] h0 (fun v h L => ∃ (b1 : Addr) (b2 : Addr) (b3 : Addr) (b4 : Addr) (b5 : Addr) (b6 : Addr) (b7 : Addr), v = none ∧ Fr n0 L ∧ Keep h0 h [a1] ∧ n0 ≤ b1 ∧ h0.size ≤ b1 ∧ n0 ≤ b2 ∧ h0.size ≤ b2 ∧ n0 ≤ b3 ∧ h0.size ≤ b3 ∧ n0 ≤ b4 ∧ h0.size ≤ b4 ∧ n0 ≤ b5 ∧ h0.size ≤ b5 ∧ n0 ≤ b6 ∧ h0.size ≤ b6 ∧ n0 ≤ b7 ∧ h0.size ≤ b7 ∧ b1 ≠ b2 ∧ b1 ≠ b3 ∧ b1 ≠ b4 ∧ b1 ≠ b5 ∧ b1 ≠ b6 ∧ b1 ≠ b7 ∧ b2 ≠ b3 ∧ b2 ≠ b4 ∧ b2 ≠ b5 ∧ b2 ≠ b6 ∧ b2 ≠ b7 ∧ b3 ≠ b4 ∧ b3 ≠ b5 ∧ b3 ≠ b6 ∧ b3 ≠ b7 ∧ b4 ≠ b5 ∧ b4 ≠ b6 ∧ b4 ≠ b7 ∧ b5 ≠ b6 ∧ b5 ≠ b7 ∧ b6 ≠ b7 ∧ Fld Z h a1 "com/example/edgewise/edgewise/EdgeSlots" "sources" "[I" (.ref b1) ∧ Fld Z h a1 "com/example/edgewise/edgewise/EdgeSlots" "targets" "[I" (.ref b2) ∧ Fld Z h a1 "com/example/edgewise/edgewise/EdgeSlots" "sourcePositions" "[I" (.ref b3) ∧ Fld Z h a1 "com/example/edgewise/edgewise/EdgeSlots" "targetPositions" "[I" (.ref b4) ∧ Fld Z h a1 "com/example/edgewise/edgewise/EdgeSlots" "weights" "[D" (.ref b5) ∧ Fld Z h a1 "com/example/edgewise/edgewise/EdgeSlots" "keys" "[I" (.ref b6) ∧ Fld Z h a1 "com/example/edgewise/edgewise/EdgeSlots" "keptNumbers" "[J" (.ref b7) ∧ Fld Z h a1 "com/example/edgewise/edgewise/EdgeSlots" "keyed" "Z" (.int (0 : Int32)) ∧ Fld Z h a1 "com/example/edgewise/edgewise/EdgeSlots" "bound" "I" (.int (0 : Int32)) ∧ Fld Z h a1 "com/example/edgewise/edgewise/EdgeSlots" "count" "I" (.int (0 : Int32)) ∧ Fld Z h a1 "com/example/edgewise/edgewise/EdgeSlots" "nextNumber" "J" (.long (0 : Int64)) ∧ ArF Z h b1 .int 0 (fun i => .int ((fun _ => (0 : Int32)) i)) ∧ ArF Z h b2 .int 0 (fun i => .int ((fun _ => (0 : Int32)) i)) ∧ ArF Z h b3 .int 0 (fun i => .int ((fun _ => (0 : Int32)) i)) ∧ ArF Z h b4 .int 0 (fun i => .int ((fun _ => (0 : Int32)) i)) ∧ ArF Z h b5 .double 0 (fun i => .double ((fun _ => (0 : UInt64)) i)) ∧ ArF Z h b6 .int 0 (fun i => .int ((fun _ => (0 : Int32)) i)) ∧ ArF Z h b7 .long 0 (fun i => .long ((fun _ => (0 : Int64)) i))) := by
  refine meet (y := (⟨"com/example/edgewise/edgewise/EdgeSlots", "<init>", "(Z)V"⟩ : MethodName)) (Q := fun v h L => ∃ (b1 : Addr) (b2 : Addr) (b3 : Addr) (b4 : Addr) (b5 : Addr) (b6 : Addr) (b7 : Addr), v = none ∧ Fr n0 L ∧ Keep h0 h [a1] ∧ n0 ≤ b1 ∧ h0.size ≤ b1 ∧ n0 ≤ b2 ∧ h0.size ≤ b2 ∧ n0 ≤ b3 ∧ h0.size ≤ b3 ∧ n0 ≤ b4 ∧ h0.size ≤ b4 ∧ n0 ≤ b5 ∧ h0.size ≤ b5 ∧ n0 ≤ b6 ∧ h0.size ≤ b6 ∧ n0 ≤ b7 ∧ h0.size ≤ b7 ∧ b1 ≠ b2 ∧ b1 ≠ b3 ∧ b1 ≠ b4 ∧ b1 ≠ b5 ∧ b1 ≠ b6 ∧ b1 ≠ b7 ∧ b2 ≠ b3 ∧ b2 ≠ b4 ∧ b2 ≠ b5 ∧ b2 ≠ b6 ∧ b2 ≠ b7 ∧ b3 ≠ b4 ∧ b3 ≠ b5 ∧ b3 ≠ b6 ∧ b3 ≠ b7 ∧ b4 ≠ b5 ∧ b4 ≠ b6 ∧ b4 ≠ b7 ∧ b5 ≠ b6 ∧ b5 ≠ b7 ∧ b6 ≠ b7 ∧ Fld Z h a1 "com/example/edgewise/edgewise/EdgeSlots" "sources" "[I" (.ref b1) ∧ Fld Z h a1 "com/example/edgewise/edgewise/EdgeSlots" "targets" "[I" (.ref b2) ∧ Fld Z h a1 "com/example/edgewise/edgewise/EdgeSlots" "sourcePositions" "[I" (.ref b3) ∧ Fld Z h a1 "com/example/edgewise/edgewise/EdgeSlots" "targetPositions" "[I" (.ref b4) ∧ Fld Z h a1 "com/example/edgewise/edgewise/EdgeSlots" "weights" "[D" (.ref b5) ∧ Fld Z h a1 "com/example/edgewise/edgewise/EdgeSlots" "keys" "[I" (.ref b6) ∧ Fld Z h a1 "com/example/edgewise/edgewise/EdgeSlots" "keptNumbers" "[J" (.ref b7) ∧ Fld Z h a1 "com/example/edgewise/edgewise/EdgeSlots" "keyed" "Z" (.int (0 : Int32)) ∧ Fld Z h a1 "com/example/edgewise/edgewise/EdgeSlots" "bound" "I" (.int (0 : Int32)) ∧ Fld Z h a1 "com/example/edgewise/edgewise/EdgeSlots" "count" "I" (.int (0 : Int32)) ∧ Fld Z h a1 "com/example/edgewise/edgewise/EdgeSlots" "nextNumber" "J" (.long (0 : Int64)) ∧ ArF Z h b1 .int 0 (fun i => .int ((fun _ => (0 : Int32)) i)) ∧ ArF Z h b2 .int 0 (fun i => .int ((fun _ => (0 : Int32)) i)) ∧ ArF Z h b3 .int 0 (fun i => .int ((fun _ => (0 : Int32)) i)) ∧ ArF Z h b4 .int 0 (fun i => .int ((fun _ => (0 : Int32)) i)) ∧ ArF Z h b5 .double 0 (fun i => .double ((fun _ => (0 : UInt64)) i)) ∧ ArF Z h b6 .int 0 (fun i => .int ((fun _ => (0 : Int32)) i)) ∧ ArF Z h b7 .long 0 (fun i => .long ((fun _ => (0 : Int64)) i))) (plainFor_of_name pn_com_example_edgewise_edgewise_EdgeSlots) (fun m => ef_rm_init0 m a1) ?_
  intro p e s m below meth c T0 hx hby hml hZ hown hnm hret hlk X0 e0
  have N0 := Fr.nil n0
  have K0 := Keep.refl h0 [a1]
  refine g_aloadN X0 hx hby d1_0 (pc' := 1) rfl rfl rfl ?_
  refine g_init X0 hx hby hZ hown (wi hw 7 rfl) (wi hw 8 rfl) (wi hw 9 rfl) e0 (by rw [hml]; rfl) d1_1 (pc' := 4) rfl (by decide) (W := 0) rfl (by decide) ?_
  intro T1 X1 e1
  refine g_aloadN X1 hx hby d1_4 (pc' := 5) rfl rfl rfl ?_
  refine g_iconst X1 hx hby d1_5 (pc' := 6) rfl (z := (0 : Int32)) rfl ?_
  refine Go.newarr X1 hx hZ (n := 0) (cap := 0) (ty := .int) rfl (wi hw 10 rfl) e1 (by decide) rfl (by decide) (by decide) (by decide) (by decide) (hb hby d1_6) (pc' := 8) rfl ?_
  intro T2 h2 b2 X2 e2 E2 hb2 V2
  have g3 : n0 ≤ b2 := by rw [hb2]; exact Z0
  have s4 : h0.size ≤ b2 := by rw [hb2]; exact K0.1
  have V5 : ArF Z h2 b2 .int 0 (fun i => .int ((fun _ => (0 : Int32)) i)) := V2
  have f6 := P1.ext E2
  have f7 := P0.ext E2
  refine g_putf X2 hx hby hZ hown (host := "") (Or.inl (wi hw 11 rfl)) Via.refl e2 f6 f7 (Or.inl (wi hw 12 rfl)) (wi hw 2 rfl) (ty := (.array .int)) (by decide) rfl rfl d1_8 (pc' := 11) rfl ?_
  intro T8 h8 X8 e8 W8 F8
  refine g_aloadN X8 hx hby d1_11 (pc' := 12) rfl rfl rfl ?_
  refine g_iconst X8 hx hby d1_12 (pc' := 13) rfl (z := (0 : Int32)) rfl ?_
  refine Go.newarr X8 hx hZ (n := 0) (cap := 0) (ty := .int) rfl (wi hw 10 rfl) e8 (by decide) rfl (by decide) (by decide) (by decide) (by decide) (hb hby d1_13) (pc' := 15) rfl ?_
  intro T9 h9 b9 X9 e9 E9 hb9 V9
  have g10 : n0 ≤ b9 := by rw [hb9]; exact (Nat.le_trans (Nat.le_trans Z0 E2.1) (Nat.le_of_eq (Wr.size W8).symm))
  have s11 : h0.size ≤ b9 := by rw [hb9]; exact ((K0.ext E2).wr W8 (Or.inl (List.mem_of_getElem? (i := 0) rfl))).1
  have V12 : ArF Z h9 b9 .int 0 (fun i => .int ((fun _ => (0 : Int32)) i)) := V9
  have f13 := (((P2.ext E2).other W8 (Or.inr (slot_ne (Or.inl (wi hw 14 rfl)) (Or.inl (wi hw 12 rfl)) (by decide) (t := (.array .int)) (t' := (.array .int)) (by decide) (by decide)))).ext E9)
  have f14 := ((f7.wr W8).ext E9)
  refine g_putf X9 hx hby hZ hown (host := "") (Or.inl (wi hw 13 rfl)) Via.refl e9 f13 f14 (Or.inl (wi hw 14 rfl)) (wi hw 2 rfl) (ty := (.array .int)) (by decide) rfl rfl d1_15 (pc' := 18) rfl ?_
  intro T15 h15 X15 e15 W15 F15
  refine g_aloadN X15 hx hby d1_18 (pc' := 19) rfl rfl rfl ?_
  refine g_iconst X15 hx hby d1_19 (pc' := 20) rfl (z := (0 : Int32)) rfl ?_
  refine Go.newarr X15 hx hZ (n := 0) (cap := 0) (ty := .int) rfl (wi hw 10 rfl) e15 (by decide) rfl (by decide) (by decide) (by decide) (by decide) (hb hby d1_20) (pc' := 22) rfl ?_
  intro T16 h16 b16 X16 e16 E16 hb16 V16
  have g17 : n0 ≤ b16 := by rw [hb16]; exact (Nat.le_trans (Nat.le_trans (Nat.le_trans (Nat.le_trans Z0 E2.1) (Nat.le_of_eq (Wr.size W8).symm)) E9.1) (Nat.le_of_eq (Wr.size W15).symm))
  have s18 : h0.size ≤ b16 := by rw [hb16]; exact ((((K0.ext E2).wr W8 (Or.inl (List.mem_of_getElem? (i := 0) rfl))).ext E9).wr W15 (Or.inl (List.mem_of_getElem? (i := 0) rfl))).1
  have V19 : ArF Z h16 b16 .int 0 (fun i => .int ((fun _ => (0 : Int32)) i)) := V16
  have z20 : n0 ≤ h16.size := (Nat.le_trans (Nat.le_trans (Nat.le_trans (Nat.le_trans (Nat.le_trans Z0 E2.1) (Nat.le_of_eq (Wr.size W8).symm)) E9.1) (Nat.le_of_eq (Wr.size W15).symm)) E16.1)
  have f21 := (((((P3.ext E2).other W8 (Or.inr (slot_ne (Or.inl (wi hw 16 rfl)) (Or.inl (wi hw 12 rfl)) (by decide) (t := (.array .int)) (t' := (.array .int)) (by decide) (by decide)))).ext E9).other W15 (Or.inr (slot_ne (Or.inl (wi hw 16 rfl)) (Or.inl (wi hw 14 rfl)) (by decide) (t := (.array .int)) (t' := (.array .int)) (by decide) (by decide)))).ext E16)
  have f22 := ((f14.wr W15).ext E16)
  refine g_putf X16 hx hby hZ hown (host := "") (Or.inl (wi hw 15 rfl)) Via.refl e16 f21 f22 (Or.inl (wi hw 16 rfl)) (wi hw 2 rfl) (ty := (.array .int)) (by decide) rfl rfl d1_22 (pc' := 25) rfl ?_
  intro T23 h23 X23 e23 W23 F23
  refine g_aloadN X23 hx hby d1_25 (pc' := 26) rfl rfl rfl ?_
  refine g_iconst X23 hx hby d1_26 (pc' := 27) rfl (z := (0 : Int32)) rfl ?_
  refine Go.newarr X23 hx hZ (n := 0) (cap := 0) (ty := .int) rfl (wi hw 10 rfl) e23 (by decide) rfl (by decide) (by decide) (by decide) (by decide) (hb hby d1_27) (pc' := 29) rfl ?_
  intro T24 h24 b24 X24 e24 E24 hb24 V24
  have g25 : n0 ≤ b24 := by rw [hb24]; exact (Nat.le_trans z20 (Nat.le_of_eq (Wr.size W23).symm))
  have s26 : h0.size ≤ b24 := by rw [hb24]; exact ((((((K0.ext E2).wr W8 (Or.inl (List.mem_of_getElem? (i := 0) rfl))).ext E9).wr W15 (Or.inl (List.mem_of_getElem? (i := 0) rfl))).ext E16).wr W23 (Or.inl (List.mem_of_getElem? (i := 0) rfl))).1
  have V27 : ArF Z h24 b24 .int 0 (fun i => .int ((fun _ => (0 : Int32)) i)) := V24
  have K28 : Keep h0 h24 [a1] := (((((((K0.ext E2).wr W8 (Or.inl (List.mem_of_getElem? (i := 0) rfl))).ext E9).wr W15 (Or.inl (List.mem_of_getElem? (i := 0) rfl))).ext E16).wr W23 (Or.inl (List.mem_of_getElem? (i := 0) rfl))).ext E24)
  have f29 := (((((((P4.ext E2).other W8 (Or.inr (slot_ne (Or.inl (wi hw 18 rfl)) (Or.inl (wi hw 12 rfl)) (by decide) (t := (.array .int)) (t' := (.array .int)) (by decide) (by decide)))).ext E9).other W15 (Or.inr (slot_ne (Or.inl (wi hw 18 rfl)) (Or.inl (wi hw 14 rfl)) (by decide) (t := (.array .int)) (t' := (.array .int)) (by decide) (by decide)))).ext E16).other W23 (Or.inr (slot_ne (Or.inl (wi hw 18 rfl)) (Or.inl (wi hw 16 rfl)) (by decide) (t := (.array .int)) (t' := (.array .int)) (by decide) (by decide)))).ext E24)
  have f30 := ((f22.wr W23).ext E24)
  refine g_putf X24 hx hby hZ hown (host := "") (Or.inl (wi hw 17 rfl)) Via.refl e24 f29 f30 (Or.inl (wi hw 18 rfl)) (wi hw 2 rfl) (ty := (.array .int)) (by decide) rfl rfl d1_29 (pc' := 32) rfl ?_
  intro T31 h31 X31 e31 W31 F31
  refine g_aloadN X31 hx hby d1_32 (pc' := 33) rfl rfl rfl ?_
  refine g_iconst X31 hx hby d1_33 (pc' := 34) rfl (z := (0 : Int32)) rfl ?_
  refine Go.newarr X31 hx hZ (n := 0) (cap := 0) (ty := .double) rfl (wi hw 19 rfl) e31 (by decide) rfl (by decide) (by decide) (by decide) (by decide) (hb hby d1_34) (pc' := 36) rfl ?_
  intro T32 h32 b32 X32 e32 E32 hb32 V32
  have g33 : n0 ≤ b32 := by rw [hb32]; exact (Nat.le_trans (Nat.le_trans (Nat.le_trans z20 (Nat.le_of_eq (Wr.size W23).symm)) E24.1) (Nat.le_of_eq (Wr.size W31).symm))
  have s34 : h0.size ≤ b32 := by rw [hb32]; exact (K28.wr W31 (Or.inl (List.mem_of_getElem? (i := 0) rfl))).1
  have V35 : ArF Z h32 b32 .double 0 (fun i => .double ((fun _ => (0 : UInt64)) i)) := V32
  have f36 := (((((((((P5.ext E2).other W8 (Or.inr (slot_ne (Or.inl (wi hw 21 rfl)) (Or.inl (wi hw 12 rfl)) (by decide) (t := (.array .double)) (t' := (.array .int)) (by decide) (by decide)))).ext E9).other W15 (Or.inr (slot_ne (Or.inl (wi hw 21 rfl)) (Or.inl (wi hw 14 rfl)) (by decide) (t := (.array .double)) (t' := (.array .int)) (by decide) (by decide)))).ext E16).other W23 (Or.inr (slot_ne (Or.inl (wi hw 21 rfl)) (Or.inl (wi hw 16 rfl)) (by decide) (t := (.array .double)) (t' := (.array .int)) (by decide) (by decide)))).ext E24).other W31 (Or.inr (slot_ne (Or.inl (wi hw 21 rfl)) (Or.inl (wi hw 18 rfl)) (by decide) (t := (.array .double)) (t' := (.array .int)) (by decide) (by decide)))).ext E32)
  have f37 := ((f30.wr W31).ext E32)
  refine g_putf X32 hx hby hZ hown (host := "") (Or.inl (wi hw 20 rfl)) Via.refl e32 f36 f37 (Or.inl (wi hw 21 rfl)) (wi hw 2 rfl) (ty := (.array .double)) (by decide) rfl rfl d1_36 (pc' := 39) rfl ?_
  intro T38 h38 X38 e38 W38 F38
  have z39 : n0 ≤ h38.size := (Nat.le_trans (Nat.le_trans (Nat.le_trans (Nat.le_trans (Nat.le_trans z20 (Nat.le_of_eq (Wr.size W23).symm)) E24.1) (Nat.le_of_eq (Wr.size W31).symm)) E32.1) (Nat.le_of_eq (Wr.size W38).symm))
  refine g_aloadN X38 hx hby d1_39 (pc' := 40) rfl rfl rfl ?_
  refine g_iconst X38 hx hby d1_40 (pc' := 41) rfl (z := (0 : Int32)) rfl ?_
  refine Go.newarr X38 hx hZ (n := 0) (cap := 0) (ty := .int) rfl (wi hw 10 rfl) e38 (by decide) rfl (by decide) (by decide) (by decide) (by decide) (hb hby d1_41) (pc' := 43) rfl ?_
  intro T40 h40 b40 X40 e40 E40 hb40 V40
  have g41 : n0 ≤ b40 := by rw [hb40]; exact z39
  have s42 : h0.size ≤ b40 := by rw [hb40]; exact (((K28.wr W31 (Or.inl (List.mem_of_getElem? (i := 0) rfl))).ext E32).wr W38 (Or.inl (List.mem_of_getElem? (i := 0) rfl))).1
  have V43 : ArF Z h40 b40 .int 0 (fun i => .int ((fun _ => (0 : Int32)) i)) := V40
  have f44 := (((((((((((P6.ext E2).other W8 (Or.inr (slot_ne (Or.inl (wi hw 23 rfl)) (Or.inl (wi hw 12 rfl)) (by decide) (t := (.array .int)) (t' := (.array .int)) (by decide) (by decide)))).ext E9).other W15 (Or.inr (slot_ne (Or.inl (wi hw 23 rfl)) (Or.inl (wi hw 14 rfl)) (by decide) (t := (.array .int)) (t' := (.array .int)) (by decide) (by decide)))).ext E16).other W23 (Or.inr (slot_ne (Or.inl (wi hw 23 rfl)) (Or.inl (wi hw 16 rfl)) (by decide) (t := (.array .int)) (t' := (.array .int)) (by decide) (by decide)))).ext E24).other W31 (Or.inr (slot_ne (Or.inl (wi hw 23 rfl)) (Or.inl (wi hw 18 rfl)) (by decide) (t := (.array .int)) (t' := (.array .int)) (by decide) (by decide)))).ext E32).other W38 (Or.inr (slot_ne (Or.inl (wi hw 23 rfl)) (Or.inl (wi hw 21 rfl)) (by decide) (t := (.array .int)) (t' := (.array .double)) (by decide) (by decide)))).ext E40)
  have f45 := ((f37.wr W38).ext E40)
  refine g_putf X40 hx hby hZ hown (host := "") (Or.inl (wi hw 22 rfl)) Via.refl e40 f44 f45 (Or.inl (wi hw 23 rfl)) (wi hw 2 rfl) (ty := (.array .int)) (by decide) rfl rfl d1_43 (pc' := 46) rfl ?_
  intro T46 h46 X46 e46 W46 F46
  have N46 := (Fr.snoc X46 (Fr.snoc X38 (Fr.snoc X31 (Fr.snoc X23 (Fr.snoc X15 (Fr.snoc X8 N0 ge_a1) ge_a1) ge_a1) ge_a1) ge_a1) ge_a1)
  refine g_aloadN X46 hx hby d1_46 (pc' := 47) rfl rfl rfl ?_
  refine g_iconst X46 hx hby d1_47 (pc' := 48) rfl (z := (0 : Int32)) rfl ?_
  refine Go.newarr X46 hx hZ (n := 0) (cap := 0) (ty := .long) rfl (wi hw 24 rfl) e46 (by decide) rfl (by decide) (by decide) (by decide) (by decide) (hb hby d1_48) (pc' := 50) rfl ?_
  intro T47 h47 b47 X47 e47 E47 hb47 V47
  have g48 : n0 ≤ b47 := by rw [hb47]; exact (Nat.le_trans (Nat.le_trans z39 E40.1) (Nat.le_of_eq (Wr.size W46).symm))
  have s49 : h0.size ≤ b47 := by rw [hb47]; exact (((((K28.wr W31 (Or.inl (List.mem_of_getElem? (i := 0) rfl))).ext E32).wr W38 (Or.inl (List.mem_of_getElem? (i := 0) rfl))).ext E40).wr W46 (Or.inl (List.mem_of_getElem? (i := 0) rfl))).1
  have V50 : ArF Z h47 b47 .long 0 (fun i => .long ((fun _ => (0 : Int64)) i)) := V47
  have f51 := (((((((((((((P7.ext E2).other W8 (Or.inr (slot_ne (Or.inl (wi hw 26 rfl)) (Or.inl (wi hw 12 rfl)) (by decide) (t := (.array .long)) (t' := (.array .int)) (by decide) (by decide)))).ext E9).other W15 (Or.inr (slot_ne (Or.inl (wi hw 26 rfl)) (Or.inl (wi hw 14 rfl)) (by decide) (t := (.array .long)) (t' := (.array .int)) (by decide) (by decide)))).ext E16).other W23 (Or.inr (slot_ne (Or.inl (wi hw 26 rfl)) (Or.inl (wi hw 16 rfl)) (by decide) (t := (.array .long)) (t' := (.array .int)) (by decide) (by decide)))).ext E24).other W31 (Or.inr (slot_ne (Or.inl (wi hw 26 rfl)) (Or.inl (wi hw 18 rfl)) (by decide) (t := (.array .long)) (t' := (.array .int)) (by decide) (by decide)))).ext E32).other W38 (Or.inr (slot_ne (Or.inl (wi hw 26 rfl)) (Or.inl (wi hw 21 rfl)) (by decide) (t := (.array .long)) (t' := (.array .double)) (by decide) (by decide)))).ext E40).other W46 (Or.inr (slot_ne (Or.inl (wi hw 26 rfl)) (Or.inl (wi hw 23 rfl)) (by decide) (t := (.array .long)) (t' := (.array .int)) (by decide) (by decide)))).ext E47)
  have f52 := ((f45.wr W46).ext E47)
  refine g_putf X47 hx hby hZ hown (host := "") (Or.inl (wi hw 25 rfl)) Via.refl e47 f51 f52 (Or.inl (wi hw 26 rfl)) (wi hw 2 rfl) (ty := (.array .long)) (by decide) rfl rfl d1_50 (pc' := 53) rfl ?_
  intro T53 h53 X53 e53 W53 F53
  have K54 : Keep h0 h53 [a1] := (((((((K28.wr W31 (Or.inl (List.mem_of_getElem? (i := 0) rfl))).ext E32).wr W38 (Or.inl (List.mem_of_getElem? (i := 0) rfl))).ext E40).wr W46 (Or.inl (List.mem_of_getElem? (i := 0) rfl))).ext E47).wr W53 (Or.inl (List.mem_of_getElem? (i := 0) rfl)))
  refine g_aloadN X53 hx hby d1_53 (pc' := 54) rfl rfl rfl ?_
  refine g_iloadN X53 hx hby d1_54 (pc' := 55) rfl rfl ?_
  have f55 := ((((((((((((((P8.ext E2).other W8 (Or.inr (slot_ne (Or.inr (wi hw 28 rfl)) (Or.inl (wi hw 12 rfl)) (by decide) (t := .boolean) (t' := (.array .int)) (by decide) (by decide)))).ext E9).other W15 (Or.inr (slot_ne (Or.inr (wi hw 28 rfl)) (Or.inl (wi hw 14 rfl)) (by decide) (t := .boolean) (t' := (.array .int)) (by decide) (by decide)))).ext E16).other W23 (Or.inr (slot_ne (Or.inr (wi hw 28 rfl)) (Or.inl (wi hw 16 rfl)) (by decide) (t := .boolean) (t' := (.array .int)) (by decide) (by decide)))).ext E24).other W31 (Or.inr (slot_ne (Or.inr (wi hw 28 rfl)) (Or.inl (wi hw 18 rfl)) (by decide) (t := .boolean) (t' := (.array .int)) (by decide) (by decide)))).ext E32).other W38 (Or.inr (slot_ne (Or.inr (wi hw 28 rfl)) (Or.inl (wi hw 21 rfl)) (by decide) (t := .boolean) (t' := (.array .double)) (by decide) (by decide)))).ext E40).other W46 (Or.inr (slot_ne (Or.inr (wi hw 28 rfl)) (Or.inl (wi hw 23 rfl)) (by decide) (t := .boolean) (t' := (.array .int)) (by decide) (by decide)))).ext E47).other W53 (Or.inr (slot_ne (Or.inr (wi hw 28 rfl)) (Or.inl (wi hw 26 rfl)) (by decide) (t := .boolean) (t' := (.array .long)) (by decide) (by decide))))
  have f56 := f52.wr W53
  obtain ⟨T57, h57, X57, e57, W57, st57⟩ := putFN X53 hx hZ hown (wi hw 27 rfl) Via.refl e53 f55 f56 (Or.inr ⟨(wi hw 28 rfl), rfl, hnm⟩) (wi hw 2 rfl) (ty := .boolean) (v' := (.int (0 : Int32))) (by decide) rfl rfl (g := (mkF m 55 #[.val (.ref a1), .val (.int (0 : Int32))] [(.int (0 : Int32)), (.ref a1)])) rfl rfl (hb hby d1_55)
  refine Go.of st57 ?_
  have F57 := f55.same W57
  have z58 : n0 ≤ h57.size := (Nat.le_trans (Nat.le_trans (Nat.le_trans (Nat.le_trans (Nat.le_trans z39 E40.1) (Nat.le_of_eq (Wr.size W46).symm)) E47.1) (Nat.le_of_eq (Wr.size W53).symm)) (Nat.le_of_eq (Wr.size W57).symm))
  show Go p.tables e below s _ _ _ (T57.setTop (mkF m 58 #[.val (.ref a1), .val (.int (0 : Int32))] []))
  refine Go.retV X57 hx hlk hret (hb hby d1_58) rfl (by decide) (by decide) ?_
  have f59 := (((((((((((((F8.ext E9).other W15 (Or.inr (slot_ne (Or.inl (wi hw 12 rfl)) (Or.inl (wi hw 14 rfl)) (by decide) (t := (.array .int)) (t' := (.array .int)) (by decide) (by decide)))).ext E16).other W23 (Or.inr (slot_ne (Or.inl (wi hw 12 rfl)) (Or.inl (wi hw 16 rfl)) (by decide) (t := (.array .int)) (t' := (.array .int)) (by decide) (by decide)))).ext E24).other W31 (Or.inr (slot_ne (Or.inl (wi hw 12 rfl)) (Or.inl (wi hw 18 rfl)) (by decide) (t := (.array .int)) (t' := (.array .int)) (by decide) (by decide)))).ext E32).other W38 (Or.inr (slot_ne (Or.inl (wi hw 12 rfl)) (Or.inl (wi hw 21 rfl)) (by decide) (t := (.array .int)) (t' := (.array .double)) (by decide) (by decide)))).ext E40).other W46 (Or.inr (slot_ne (Or.inl (wi hw 12 rfl)) (Or.inl (wi hw 23 rfl)) (by decide) (t := (.array .int)) (t' := (.array .int)) (by decide) (by decide)))).ext E47).other W53 (Or.inr (slot_ne (Or.inl (wi hw 12 rfl)) (Or.inl (wi hw 26 rfl)) (by decide) (t := (.array .int)) (t' := (.array .long)) (by decide) (by decide)))).other W57 (Or.inr (slot_ne (Or.inl (wi hw 12 rfl)) (Or.inr (wi hw 28 rfl)) (by decide) (t := (.array .int)) (t' := .boolean) (by decide) (by decide))))
  have f60 := (((((((((((F15.ext E16).other W23 (Or.inr (slot_ne (Or.inl (wi hw 14 rfl)) (Or.inl (wi hw 16 rfl)) (by decide) (t := (.array .int)) (t' := (.array .int)) (by decide) (by decide)))).ext E24).other W31 (Or.inr (slot_ne (Or.inl (wi hw 14 rfl)) (Or.inl (wi hw 18 rfl)) (by decide) (t := (.array .int)) (t' := (.array .int)) (by decide) (by decide)))).ext E32).other W38 (Or.inr (slot_ne (Or.inl (wi hw 14 rfl)) (Or.inl (wi hw 21 rfl)) (by decide) (t := (.array .int)) (t' := (.array .double)) (by decide) (by decide)))).ext E40).other W46 (Or.inr (slot_ne (Or.inl (wi hw 14 rfl)) (Or.inl (wi hw 23 rfl)) (by decide) (t := (.array .int)) (t' := (.array .int)) (by decide) (by decide)))).ext E47).other W53 (Or.inr (slot_ne (Or.inl (wi hw 14 rfl)) (Or.inl (wi hw 26 rfl)) (by decide) (t := (.array .int)) (t' := (.array .long)) (by decide) (by decide)))).other W57 (Or.inr (slot_ne (Or.inl (wi hw 14 rfl)) (Or.inr (wi hw 28 rfl)) (by decide) (t := (.array .int)) (t' := .boolean) (by decide) (by decide))))
  have f61 := (((((((((F23.ext E24).other W31 (Or.inr (slot_ne (Or.inl (wi hw 16 rfl)) (Or.inl (wi hw 18 rfl)) (by decide) (t := (.array .int)) (t' := (.array .int)) (by decide) (by decide)))).ext E32).other W38 (Or.inr (slot_ne (Or.inl (wi hw 16 rfl)) (Or.inl (wi hw 21 rfl)) (by decide) (t := (.array .int)) (t' := (.array .double)) (by decide) (by decide)))).ext E40).other W46 (Or.inr (slot_ne (Or.inl (wi hw 16 rfl)) (Or.inl (wi hw 23 rfl)) (by decide) (t := (.array .int)) (t' := (.array .int)) (by decide) (by decide)))).ext E47).other W53 (Or.inr (slot_ne (Or.inl (wi hw 16 rfl)) (Or.inl (wi hw 26 rfl)) (by decide) (t := (.array .int)) (t' := (.array .long)) (by decide) (by decide)))).other W57 (Or.inr (slot_ne (Or.inl (wi hw 16 rfl)) (Or.inr (wi hw 28 rfl)) (by decide) (t := (.array .int)) (t' := .boolean) (by decide) (by decide))))
  have f62 := (((((((F31.ext E32).other W38 (Or.inr (slot_ne (Or.inl (wi hw 18 rfl)) (Or.inl (wi hw 21 rfl)) (by decide) (t := (.array .int)) (t' := (.array .double)) (by decide) (by decide)))).ext E40).other W46 (Or.inr (slot_ne (Or.inl (wi hw 18 rfl)) (Or.inl (wi hw 23 rfl)) (by decide) (t := (.array .int)) (t' := (.array .int)) (by decide) (by decide)))).ext E47).other W53 (Or.inr (slot_ne (Or.inl (wi hw 18 rfl)) (Or.inl (wi hw 26 rfl)) (by decide) (t := (.array .int)) (t' := (.array .long)) (by decide) (by decide)))).other W57 (Or.inr (slot_ne (Or.inl (wi hw 18 rfl)) (Or.inr (wi hw 28 rfl)) (by decide) (t := (.array .int)) (t' := .boolean) (by decide) (by decide))))
  have f63 := (((((F38.ext E40).other W46 (Or.inr (slot_ne (Or.inl (wi hw 21 rfl)) (Or.inl (wi hw 23 rfl)) (by decide) (t := (.array .double)) (t' := (.array .int)) (by decide) (by decide)))).ext E47).other W53 (Or.inr (slot_ne (Or.inl (wi hw 21 rfl)) (Or.inl (wi hw 26 rfl)) (by decide) (t := (.array .double)) (t' := (.array .long)) (by decide) (by decide)))).other W57 (Or.inr (slot_ne (Or.inl (wi hw 21 rfl)) (Or.inr (wi hw 28 rfl)) (by decide) (t := (.array .double)) (t' := .boolean) (by decide) (by decide))))
  have f64 := (((F46.ext E47).other W53 (Or.inr (slot_ne (Or.inl (wi hw 23 rfl)) (Or.inl (wi hw 26 rfl)) (by decide) (t := (.array .int)) (t' := (.array .long)) (by decide) (by decide)))).other W57 (Or.inr (slot_ne (Or.inl (wi hw 23 rfl)) (Or.inr (wi hw 28 rfl)) (by decide) (t := (.array .int)) (t' := .boolean) (by decide) (by decide))))
  have f65 := (F53.other W57 (Or.inr (slot_ne (Or.inl (wi hw 26 rfl)) (Or.inr (wi hw 28 rfl)) (by decide) (t := (.array .long)) (t' := .boolean) (by decide) (by decide))))
  rw [e57]
  have ne66 : a1 ≠ b2 := Nat.ne_of_lt (by rw [hb2]; exact P11.lt)
  have ne67 : b2 ≠ b9 := Nat.ne_of_lt (by rw [hb9]; exact (V5.other W8 (Ne.symm ne66)).lt)
  have ne68 : b2 ≠ b16 := Nat.ne_of_lt (by rw [hb16]; exact (((V5.other W8 (Ne.symm ne66)).ext E9).other W15 (Ne.symm ne66)).lt)
  have ne69 : b2 ≠ b24 := Nat.ne_of_lt (by rw [hb24]; exact (((((V5.other W8 (Ne.symm ne66)).ext E9).other W15 (Ne.symm ne66)).ext E16).other W23 (Ne.symm ne66)).lt)
  have ne70 : b2 ≠ b32 := Nat.ne_of_lt (by rw [hb32]; exact (((((((V5.other W8 (Ne.symm ne66)).ext E9).other W15 (Ne.symm ne66)).ext E16).other W23 (Ne.symm ne66)).ext E24).other W31 (Ne.symm ne66)).lt)
  have ne71 : b2 ≠ b40 := Nat.ne_of_lt (by rw [hb40]; exact (((((((((V5.other W8 (Ne.symm ne66)).ext E9).other W15 (Ne.symm ne66)).ext E16).other W23 (Ne.symm ne66)).ext E24).other W31 (Ne.symm ne66)).ext E32).other W38 (Ne.symm ne66)).lt)
  have ne72 : b2 ≠ b47 := Nat.ne_of_lt (by rw [hb47]; exact (((((((((((V5.other W8 (Ne.symm ne66)).ext E9).other W15 (Ne.symm ne66)).ext E16).other W23 (Ne.symm ne66)).ext E24).other W31 (Ne.symm ne66)).ext E32).other W38 (Ne.symm ne66)).ext E40).other W46 (Ne.symm ne66)).lt)
  have ne73 : a1 ≠ b9 := Nat.ne_of_lt (by rw [hb9]; exact F8.lt)
  have ne74 : b9 ≠ b16 := Nat.ne_of_lt (by rw [hb16]; exact (V12.other W15 (Ne.symm ne73)).lt)
  have ne75 : b9 ≠ b24 := Nat.ne_of_lt (by rw [hb24]; exact (((V12.other W15 (Ne.symm ne73)).ext E16).other W23 (Ne.symm ne73)).lt)
  have ne76 : b9 ≠ b32 := Nat.ne_of_lt (by rw [hb32]; exact (((((V12.other W15 (Ne.symm ne73)).ext E16).other W23 (Ne.symm ne73)).ext E24).other W31 (Ne.symm ne73)).lt)
  have ne77 : b9 ≠ b40 := Nat.ne_of_lt (by rw [hb40]; exact (((((((V12.other W15 (Ne.symm ne73)).ext E16).other W23 (Ne.symm ne73)).ext E24).other W31 (Ne.symm ne73)).ext E32).other W38 (Ne.symm ne73)).lt)
  have ne78 : b9 ≠ b47 := Nat.ne_of_lt (by rw [hb47]; exact (((((((((V12.other W15 (Ne.symm ne73)).ext E16).other W23 (Ne.symm ne73)).ext E24).other W31 (Ne.symm ne73)).ext E32).other W38 (Ne.symm ne73)).ext E40).other W46 (Ne.symm ne73)).lt)
  have ne79 : a1 ≠ b16 := Nat.ne_of_lt (by rw [hb16]; exact F15.lt)
  have ne80 : b16 ≠ b24 := Nat.ne_of_lt (by rw [hb24]; exact (V19.other W23 (Ne.symm ne79)).lt)
  have ne81 : b16 ≠ b32 := Nat.ne_of_lt (by rw [hb32]; exact (((V19.other W23 (Ne.symm ne79)).ext E24).other W31 (Ne.symm ne79)).lt)
  have ne82 : b16 ≠ b40 := Nat.ne_of_lt (by rw [hb40]; exact (((((V19.other W23 (Ne.symm ne79)).ext E24).other W31 (Ne.symm ne79)).ext E32).other W38 (Ne.symm ne79)).lt)
  have ne83 : b16 ≠ b47 := Nat.ne_of_lt (by rw [hb47]; exact (((((((V19.other W23 (Ne.symm ne79)).ext E24).other W31 (Ne.symm ne79)).ext E32).other W38 (Ne.symm ne79)).ext E40).other W46 (Ne.symm ne79)).lt)
  have ne84 : a1 ≠ b24 := Nat.ne_of_lt (by rw [hb24]; exact F23.lt)
  have ne85 : b24 ≠ b32 := Nat.ne_of_lt (by rw [hb32]; exact (V27.other W31 (Ne.symm ne84)).lt)
  have ne86 : b24 ≠ b40 := Nat.ne_of_lt (by rw [hb40]; exact (((V27.other W31 (Ne.symm ne84)).ext E32).other W38 (Ne.symm ne84)).lt)
  have ne87 : b24 ≠ b47 := Nat.ne_of_lt (by rw [hb47]; exact (((((V27.other W31 (Ne.symm ne84)).ext E32).other W38 (Ne.symm ne84)).ext E40).other W46 (Ne.symm ne84)).lt)
  have ne88 : a1 ≠ b32 := Nat.ne_of_lt (by rw [hb32]; exact F31.lt)
  have ne89 : b32 ≠ b40 := Nat.ne_of_lt (by rw [hb40]; exact (V35.other W38 (Ne.symm ne88)).lt)
  have ne90 : b32 ≠ b47 := Nat.ne_of_lt (by rw [hb47]; exact (((V35.other W38 (Ne.symm ne88)).ext E40).other W46 (Ne.symm ne88)).lt)
  have ne91 : a1 ≠ b40 := Nat.ne_of_lt (by rw [hb40]; exact F38.lt)
  have ne92 : b40 ≠ b47 := Nat.ne_of_lt (by rw [hb47]; exact (V43.other W46 (Ne.symm ne91)).lt)
  have f93 := (((((((((((((((P9.ext E2).other W8 (Or.inr (slot_ne (Or.inl (wi hw 35 rfl)) (Or.inl (wi hw 12 rfl)) (by decide) (t := .int) (t' := (.array .int)) (by decide) (by decide)))).ext E9).other W15 (Or.inr (slot_ne (Or.inl (wi hw 35 rfl)) (Or.inl (wi hw 14 rfl)) (by decide) (t := .int) (t' := (.array .int)) (by decide) (by decide)))).ext E16).other W23 (Or.inr (slot_ne (Or.inl (wi hw 35 rfl)) (Or.inl (wi hw 16 rfl)) (by decide) (t := .int) (t' := (.array .int)) (by decide) (by decide)))).ext E24).other W31 (Or.inr (slot_ne (Or.inl (wi hw 35 rfl)) (Or.inl (wi hw 18 rfl)) (by decide) (t := .int) (t' := (.array .int)) (by decide) (by decide)))).ext E32).other W38 (Or.inr (slot_ne (Or.inl (wi hw 35 rfl)) (Or.inl (wi hw 21 rfl)) (by decide) (t := .int) (t' := (.array .double)) (by decide) (by decide)))).ext E40).other W46 (Or.inr (slot_ne (Or.inl (wi hw 35 rfl)) (Or.inl (wi hw 23 rfl)) (by decide) (t := .int) (t' := (.array .int)) (by decide) (by decide)))).ext E47).other W53 (Or.inr (slot_ne (Or.inl (wi hw 35 rfl)) (Or.inl (wi hw 26 rfl)) (by decide) (t := .int) (t' := (.array .long)) (by decide) (by decide)))).other W57 (Or.inr (slot_ne (Or.inl (wi hw 35 rfl)) (Or.inr (wi hw 28 rfl)) (by decide) (t := .int) (t' := .boolean) (by decide) (by decide))))
  have f94 := (((((((((((((((P10.ext E2).other W8 (Or.inr (slot_ne (Or.inl (wi hw 70 rfl)) (Or.inl (wi hw 12 rfl)) (by decide) (t := .int) (t' := (.array .int)) (by decide) (by decide)))).ext E9).other W15 (Or.inr (slot_ne (Or.inl (wi hw 70 rfl)) (Or.inl (wi hw 14 rfl)) (by decide) (t := .int) (t' := (.array .int)) (by decide) (by decide)))).ext E16).other W23 (Or.inr (slot_ne (Or.inl (wi hw 70 rfl)) (Or.inl (wi hw 16 rfl)) (by decide) (t := .int) (t' := (.array .int)) (by decide) (by decide)))).ext E24).other W31 (Or.inr (slot_ne (Or.inl (wi hw 70 rfl)) (Or.inl (wi hw 18 rfl)) (by decide) (t := .int) (t' := (.array .int)) (by decide) (by decide)))).ext E32).other W38 (Or.inr (slot_ne (Or.inl (wi hw 70 rfl)) (Or.inl (wi hw 21 rfl)) (by decide) (t := .int) (t' := (.array .double)) (by decide) (by decide)))).ext E40).other W46 (Or.inr (slot_ne (Or.inl (wi hw 70 rfl)) (Or.inl (wi hw 23 rfl)) (by decide) (t := .int) (t' := (.array .int)) (by decide) (by decide)))).ext E47).other W53 (Or.inr (slot_ne (Or.inl (wi hw 70 rfl)) (Or.inl (wi hw 26 rfl)) (by decide) (t := .int) (t' := (.array .long)) (by decide) (by decide)))).other W57 (Or.inr (slot_ne (Or.inl (wi hw 70 rfl)) (Or.inr (wi hw 28 rfl)) (by decide) (t := .int) (t' := .boolean) (by decide) (by decide))))
  have f95 := (((((((((((((((P11.ext E2).other W8 (Or.inr (slot_ne (Or.inl (wi hw 72 rfl)) (Or.inl (wi hw 12 rfl)) (by decide) (t := .long) (t' := (.array .int)) (by decide) (by decide)))).ext E9).other W15 (Or.inr (slot_ne (Or.inl (wi hw 72 rfl)) (Or.inl (wi hw 14 rfl)) (by decide) (t := .long) (t' := (.array .int)) (by decide) (by decide)))).ext E16).other W23 (Or.inr (slot_ne (Or.inl (wi hw 72 rfl)) (Or.inl (wi hw 16 rfl)) (by decide) (t := .long) (t' := (.array .int)) (by decide) (by decide)))).ext E24).other W31 (Or.inr (slot_ne (Or.inl (wi hw 72 rfl)) (Or.inl (wi hw 18 rfl)) (by decide) (t := .long) (t' := (.array .int)) (by decide) (by decide)))).ext E32).other W38 (Or.inr (slot_ne (Or.inl (wi hw 72 rfl)) (Or.inl (wi hw 21 rfl)) (by decide) (t := .long) (t' := (.array .double)) (by decide) (by decide)))).ext E40).other W46 (Or.inr (slot_ne (Or.inl (wi hw 72 rfl)) (Or.inl (wi hw 23 rfl)) (by decide) (t := .long) (t' := (.array .int)) (by decide) (by decide)))).ext E47).other W53 (Or.inr (slot_ne (Or.inl (wi hw 72 rfl)) (Or.inl (wi hw 26 rfl)) (by decide) (t := .long) (t' := (.array .long)) (by decide) (by decide)))).other W57 (Or.inr (slot_ne (Or.inl (wi hw 72 rfl)) (Or.inr (wi hw 28 rfl)) (by decide) (t := .long) (t' := .boolean) (by decide) (by decide))))
  have f96 := ((((((((((((((V5.other W8 (Ne.symm ne66)).ext E9).other W15 (Ne.symm ne66)).ext E16).other W23 (Ne.symm ne66)).ext E24).other W31 (Ne.symm ne66)).ext E32).other W38 (Ne.symm ne66)).ext E40).other W46 (Ne.symm ne66)).ext E47).other W53 (Ne.symm ne66)).other W57 (Ne.symm ne66))
  have f97 := ((((((((((((V12.other W15 (Ne.symm ne73)).ext E16).other W23 (Ne.symm ne73)).ext E24).other W31 (Ne.symm ne73)).ext E32).other W38 (Ne.symm ne73)).ext E40).other W46 (Ne.symm ne73)).ext E47).other W53 (Ne.symm ne73)).other W57 (Ne.symm ne73))
  have f98 := ((((((((((V19.other W23 (Ne.symm ne79)).ext E24).other W31 (Ne.symm ne79)).ext E32).other W38 (Ne.symm ne79)).ext E40).other W46 (Ne.symm ne79)).ext E47).other W53 (Ne.symm ne79)).other W57 (Ne.symm ne79))
  have f99 := ((((((((V27.other W31 (Ne.symm ne84)).ext E32).other W38 (Ne.symm ne84)).ext E40).other W46 (Ne.symm ne84)).ext E47).other W53 (Ne.symm ne84)).other W57 (Ne.symm ne84))
  have f100 := ((((((V35.other W38 (Ne.symm ne88)).ext E40).other W46 (Ne.symm ne88)).ext E47).other W53 (Ne.symm ne88)).other W57 (Ne.symm ne88))
  have f101 := ((((V43.other W46 (Ne.symm ne91)).ext E47).other W53 (Ne.symm ne91)).other W57 (Ne.symm ne91))
  have ne102 : a1 ≠ b47 := Nat.ne_of_lt (by rw [hb47]; exact F46.lt)
  have f103 := ((V50.other W53 (Ne.symm ne102)).other W57 (Ne.symm ne102))
  exact ⟨b2, b9, b16, b24, b32, b40, b47, rfl, (Fr.snoc X57 (Fr.snoc X53 N46 ge_a1) ge_a1), (K54.wr W57 (Or.inl (List.mem_of_getElem? (i := 0) rfl))), g3, s4, g10, s11, g17, s18, g25, s26, g33, s34, g41, s42, g48, s49, ne67, ne68, ne69, ne70, ne71, ne72, ne74, ne75, ne76, ne77, ne78, ne80, ne81, ne82, ne83, ne85, ne86, ne87, ne89, ne90, ne92, f59, f60, f61, f62, f63, f64, f65, F57, f93, f94, f95, f96, f97, f98, f99, f100, f101, f103⟩
theorem ef_rm_init1 (m : MethodId) (x0 : Addr) : entryFrame m #[(.ref x0), (.int (1 : Int32))] 2 = mkF m 0 #[.val (.ref x0), .val (.int (1 : Int32))] [] := by first | (simp [entryFrame, mkF, argsToLocals, Value.category]; done) | rfl
set_option maxRecDepth 65536 in
set_option maxHeartbeats 40000000 in
theorem rm_init1 (l : Launch) (Z : State) (a0 : Array Value) (hw : ∀ d ∈ tables_1, d.before a0 Z = true) (a1 : Addr) (h0 : Heap) (n0 : Nat) (Z0 : n0 ≤ h0.size) (P0 : Exa Z h0 a1 "com/example/edgewise/edgewise/EdgeSlots") (P1 : Fld Z h0 a1 "com/example/edgewise/edgewise/EdgeSlots" "sources" "[I" .null) (P2 : Fld Z h0 a1 "com/example/edgewise/edgewise/EdgeSlots" "targets" "[I" .null) (P3 : Fld Z h0 a1 "com/example/edgewise/edgewise/EdgeSlots" "sourcePositions" "[I" .null) (P4 : Fld Z h0 a1 "com/example/edgewise/edgewise/EdgeSlots" "targetPositions" "[I" .null) (P5 : Fld Z h0 a1 "com/example/edgewise/edgewise/EdgeSlots" "weights" "[D" .null) (P6 : Fld Z h0 a1 "com/example/edgewise/edgewise/EdgeSlots" "keys" "[I" .null) (P7 : Fld Z h0 a1 "com/example/edgewise/edgewise/EdgeSlots" "keptNumbers" "[J" .null) (P8 : Fld Z h0 a1 "com/example/edgewise/edgewise/EdgeSlots" "keyed" "Z" (.int (0 : Int32))) (P9 : Fld Z h0 a1 "com/example/edgewise/edgewise/EdgeSlots" "bound" "I" (.int (0 : Int32))) (P10 : Fld Z h0 a1 "com/example/edgewise/edgewise/EdgeSlots" "count" "I" (.int (0 : Int32))) (P11 : Fld Z h0 a1 "com/example/edgewise/edgewise/EdgeSlots" "nextNumber" "J" (.long (0 : Int64))) (ge_a1 : n0 ≤ a1) :
    Con l Z (⟨"com/example/edgewise/edgewise/EdgeSlots", "<init>", "(Z)V"⟩ : MethodName) prog_12_method_1_code 2 none ({ frames := 1, cells := 7, slots := 0, locals := 12 } : Room) #[(.ref a1), (.int (1 : Int32))] h0 (fun v h L => ∃ (b1 : Addr) (b2 : Addr) (b3 : Addr) (b4 : Addr) (b5 : Addr) (b6 : Addr) (b7 : Addr), v = none ∧ Fr n0 L ∧ Keep h0 h [a1] ∧ n0 ≤ b1 ∧ h0.size ≤ b1 ∧ n0 ≤ b2 ∧ h0.size ≤ b2 ∧ n0 ≤ b3 ∧ h0.size ≤ b3 ∧ n0 ≤ b4 ∧ h0.size ≤ b4 ∧ n0 ≤ b5 ∧ h0.size ≤ b5 ∧ n0 ≤ b6 ∧ h0.size ≤ b6 ∧ n0 ≤ b7 ∧ h0.size ≤ b7 ∧ b1 ≠ b2 ∧ b1 ≠ b3 ∧ b1 ≠ b4 ∧ b1 ≠ b5 ∧ b1 ≠ b6 ∧ b1 ≠ b7 ∧ b2 ≠ b3 ∧ b2 ≠ b4 ∧ b2 ≠ b5 ∧ b2 ≠ b6 ∧ b2 ≠ b7 ∧ b3 ≠ b4 ∧ b3 ≠ b5 ∧ b3 ≠ b6 ∧ b3 ≠ b7 ∧ b4 ≠ b5 ∧ b4 ≠ b6 ∧ b4 ≠ b7 ∧ b5 ≠ b6 ∧ b5 ≠ b7 ∧ b6 ≠ b7 ∧ Fld Z h a1 "com/example/edgewise/edgewise/EdgeSlots" "sources" "[I" (.ref b1) ∧ Fld Z h a1 "com/example/edgewise/edgewise/EdgeSlots" "targets" "[I" (.ref b2) ∧ Fld Z h a1 "com/example/edgewise/edgewise/EdgeSlots" "sourcePositions" "[I" (.ref b3) ∧ Fld Z h a1 "com/example/edgewise/edgewise/EdgeSlots" "targetPositions" "[I" (.ref b4) ∧ Fld Z h a1 "com/example/edgewise/edgewise/EdgeSlots" "weights" "[D" (.ref b5) ∧ Fld Z h a1 "com/example/edgewise/edgewise/EdgeSlots" "keys" "[I" (.ref b6) ∧ Fld Z h a1 "com/example/edgewise/edgewise/EdgeSlots" "keptNumbers" "[J" (.ref b7) ∧ Fld Z h a1 "com/example/edgewise/edgewise/EdgeSlots" "keyed" "Z" (.int (1 : Int32)) ∧ Fld Z h a1 "com/example/edgewise/edgewise/EdgeSlots" "bound" "I" (.int (0 : Int32)) ∧ Fld Z h a1 "com/example/edgewise/edgewise/EdgeSlots" "count" "I" (.int (0 : Int32)) ∧ Fld Z h a1 "com/example/edgewise/edgewise/EdgeSlots" "nextNumber" "J" (.long (0 : Int64)) ∧ ArF Z h b1 .int 0 (fun i => .int ((fun _ => (0 : Int32)) i)) ∧ ArF Z h b2 .int 0 (fun i => .int ((fun _ => (0 : Int32)) i)) ∧ ArF Z h b3 .int 0 (fun i => .int ((fun _ => (0 : Int32)) i)) ∧ ArF Z h b4 .int 0 (fun i => .int ((fun _ => (0 : Int32)) i)) ∧ ArF Z h b5 .double 0 (fun i => .double ((fun _ => (0 : UInt64)) i)) ∧ ArF Z h b6 .int 0 (fun i => .int ((fun _ => (0 : Int32)) i)) ∧ ArF Z h b7 .long 0 (fun i => .long ((fun _ => (0 : Int64)) i))) := by
  refine meet (y := (⟨"com/example/edgewise/edgewise/EdgeSlots", "<init>", "(Z)V"⟩ : MethodName)) (Q := fun v h L => ∃ (b1 : Addr) (b2 : Addr) (b3 : Addr) (b4 : Addr) (b5 : Addr) (b6 : Addr) (b7 : Addr), v = none ∧ Fr n0 L ∧ Keep h0 h [a1] ∧ n0 ≤ b1 ∧ h0.size ≤ b1 ∧ n0 ≤ b2 ∧ h0.size ≤ b2 ∧ n0 ≤ b3 ∧ h0.size ≤ b3 ∧ n0 ≤ b4 ∧ h0.size ≤ b4 ∧ n0 ≤ b5 ∧ h0.size ≤ b5 ∧ n0 ≤ b6 ∧ h0.size ≤ b6 ∧ n0 ≤ b7 ∧ h0.size ≤ b7 ∧ b1 ≠ b2 ∧ b1 ≠ b3 ∧ b1 ≠ b4 ∧ b1 ≠ b5 ∧ b1 ≠ b6 ∧ b1 ≠ b7 ∧ b2 ≠ b3 ∧ b2 ≠ b4 ∧ b2 ≠ b5 ∧ b2 ≠ b6 ∧ b2 ≠ b7 ∧ b3 ≠ b4 ∧ b3 ≠ b5 ∧ b3 ≠ b6 ∧ b3 ≠ b7 ∧ b4 ≠ b5 ∧ b4 ≠ b6 ∧ b4 ≠ b7 ∧ b5 ≠ b6 ∧ b5 ≠ b7 ∧ b6 ≠ b7 ∧ Fld Z h a1 "com/example/edgewise/edgewise/EdgeSlots" "sources" "[I" (.ref b1) ∧ Fld Z h a1 "com/example/edgewise/edgewise/EdgeSlots" "targets" "[I" (.ref b2) ∧ Fld Z h a1 "com/example/edgewise/edgewise/EdgeSlots" "sourcePositions" "[I" (.ref b3) ∧ Fld Z h a1 "com/example/edgewise/edgewise/EdgeSlots" "targetPositions" "[I" (.ref b4) ∧ Fld Z h a1 "com/example/edgewise/edgewise/EdgeSlots" "weights" "[D" (.ref b5) ∧ Fld Z h a1 "com/example/edgewise/edgewise/EdgeSlots" "keys" "[I" (.ref b6) ∧ Fld Z h a1 "com/example/edgewise/edgewise/EdgeSlots" "keptNumbers" "[J" (.ref b7) ∧ Fld Z h a1 "com/example/edgewise/edgewise/EdgeSlots" "keyed" "Z" (.int (1 : Int32)) ∧ Fld Z h a1 "com/example/edgewise/edgewise/EdgeSlots" "bound" "I" (.int (0 : Int32)) ∧ Fld Z h a1 "com/example/edgewise/edgewise/EdgeSlots" "count" "I" (.int (0 : Int32)) ∧ Fld Z h a1 "com/example/edgewise/edgewise/EdgeSlots" "nextNumber" "J" (.long (0 : Int64)) ∧ ArF Z h b1 .int 0 (fun i => .int ((fun _ => (0 : Int32)) i)) ∧ ArF Z h b2 .int 0 (fun i => .int ((fun _ => (0 : Int32)) i)) ∧ ArF Z h b3 .int 0 (fun i => .int ((fun _ => (0 : Int32)) i)) ∧ ArF Z h b4 .int 0 (fun i => .int ((fun _ => (0 : Int32)) i)) ∧ ArF Z h b5 .double 0 (fun i => .double ((fun _ => (0 : UInt64)) i)) ∧ ArF Z h b6 .int 0 (fun i => .int ((fun _ => (0 : Int32)) i)) ∧ ArF Z h b7 .long 0 (fun i => .long ((fun _ => (0 : Int64)) i))) (plainFor_of_name pn_com_example_edgewise_edgewise_EdgeSlots) (fun m => ef_rm_init1 m a1) ?_
  intro p e s m below meth c T0 hx hby hml hZ hown hnm hret hlk X0 e0
  have N0 := Fr.nil n0
  have K0 := Keep.refl h0 [a1]
  refine g_aloadN X0 hx hby d1_0 (pc' := 1) rfl rfl rfl ?_
  refine g_init X0 hx hby hZ hown (wi hw 7 rfl) (wi hw 8 rfl) (wi hw 9 rfl) e0 (by rw [hml]; rfl) d1_1 (pc' := 4) rfl (by decide) (W := 0) rfl (by decide) ?_
  intro T1 X1 e1
  refine g_aloadN X1 hx hby d1_4 (pc' := 5) rfl rfl rfl ?_
  refine g_iconst X1 hx hby d1_5 (pc' := 6) rfl (z := (0 : Int32)) rfl ?_
  refine Go.newarr X1 hx hZ (n := 0) (cap := 0) (ty := .int) rfl (wi hw 10 rfl) e1 (by decide) rfl (by decide) (by decide) (by decide) (by decide) (hb hby d1_6) (pc' := 8) rfl ?_
  intro T2 h2 b2 X2 e2 E2 hb2 V2
  have g3 : n0 ≤ b2 := by rw [hb2]; exact Z0
  have s4 : h0.size ≤ b2 := by rw [hb2]; exact K0.1
  have V5 : ArF Z h2 b2 .int 0 (fun i => .int ((fun _ => (0 : Int32)) i)) := V2
  have f6 := P1.ext E2
  have f7 := P0.ext E2
  refine g_putf X2 hx hby hZ hown (host := "") (Or.inl (wi hw 11 rfl)) Via.refl e2 f6 f7 (Or.inl (wi hw 12 rfl)) (wi hw 2 rfl) (ty := (.array .int)) (by decide) rfl rfl d1_8 (pc' := 11) rfl ?_
  intro T8 h8 X8 e8 W8 F8
  refine g_aloadN X8 hx hby d1_11 (pc' := 12) rfl rfl rfl ?_
  refine g_iconst X8 hx hby d1_12 (pc' := 13) rfl (z := (0 : Int32)) rfl ?_
  refine Go.newarr X8 hx hZ (n := 0) (cap := 0) (ty := .int) rfl (wi hw 10 rfl) e8 (by decide) rfl (by decide) (by decide) (by decide) (by decide) (hb hby d1_13) (pc' := 15) rfl ?_
  intro T9 h9 b9 X9 e9 E9 hb9 V9
  have g10 : n0 ≤ b9 := by rw [hb9]; exact (Nat.le_trans (Nat.le_trans Z0 E2.1) (Nat.le_of_eq (Wr.size W8).symm))
  have s11 : h0.size ≤ b9 := by rw [hb9]; exact ((K0.ext E2).wr W8 (Or.inl (List.mem_of_getElem? (i := 0) rfl))).1
  have V12 : ArF Z h9 b9 .int 0 (fun i => .int ((fun _ => (0 : Int32)) i)) := V9
  have f13 := (((P2.ext E2).other W8 (Or.inr (slot_ne (Or.inl (wi hw 14 rfl)) (Or.inl (wi hw 12 rfl)) (by decide) (t := (.array .int)) (t' := (.array .int)) (by decide) (by decide)))).ext E9)
  have f14 := ((f7.wr W8).ext E9)
  refine g_putf X9 hx hby hZ hown (host := "") (Or.inl (wi hw 13 rfl)) Via.refl e9 f13 f14 (Or.inl (wi hw 14 rfl)) (wi hw 2 rfl) (ty := (.array .int)) (by decide) rfl rfl d1_15 (pc' := 18) rfl ?_
  intro T15 h15 X15 e15 W15 F15
  refine g_aloadN X15 hx hby d1_18 (pc' := 19) rfl rfl rfl ?_
  refine g_iconst X15 hx hby d1_19 (pc' := 20) rfl (z := (0 : Int32)) rfl ?_
  refine Go.newarr X15 hx hZ (n := 0) (cap := 0) (ty := .int) rfl (wi hw 10 rfl) e15 (by decide) rfl (by decide) (by decide) (by decide) (by decide) (hb hby d1_20) (pc' := 22) rfl ?_
  intro T16 h16 b16 X16 e16 E16 hb16 V16
  have g17 : n0 ≤ b16 := by rw [hb16]; exact (Nat.le_trans (Nat.le_trans (Nat.le_trans (Nat.le_trans Z0 E2.1) (Nat.le_of_eq (Wr.size W8).symm)) E9.1) (Nat.le_of_eq (Wr.size W15).symm))
  have s18 : h0.size ≤ b16 := by rw [hb16]; exact ((((K0.ext E2).wr W8 (Or.inl (List.mem_of_getElem? (i := 0) rfl))).ext E9).wr W15 (Or.inl (List.mem_of_getElem? (i := 0) rfl))).1
  have V19 : ArF Z h16 b16 .int 0 (fun i => .int ((fun _ => (0 : Int32)) i)) := V16
  have z20 : n0 ≤ h16.size := (Nat.le_trans (Nat.le_trans (Nat.le_trans (Nat.le_trans (Nat.le_trans Z0 E2.1) (Nat.le_of_eq (Wr.size W8).symm)) E9.1) (Nat.le_of_eq (Wr.size W15).symm)) E16.1)
  have f21 := (((((P3.ext E2).other W8 (Or.inr (slot_ne (Or.inl (wi hw 16 rfl)) (Or.inl (wi hw 12 rfl)) (by decide) (t := (.array .int)) (t' := (.array .int)) (by decide) (by decide)))).ext E9).other W15 (Or.inr (slot_ne (Or.inl (wi hw 16 rfl)) (Or.inl (wi hw 14 rfl)) (by decide) (t := (.array .int)) (t' := (.array .int)) (by decide) (by decide)))).ext E16)
  have f22 := ((f14.wr W15).ext E16)
  refine g_putf X16 hx hby hZ hown (host := "") (Or.inl (wi hw 15 rfl)) Via.refl e16 f21 f22 (Or.inl (wi hw 16 rfl)) (wi hw 2 rfl) (ty := (.array .int)) (by decide) rfl rfl d1_22 (pc' := 25) rfl ?_
  intro T23 h23 X23 e23 W23 F23
  refine g_aloadN X23 hx hby d1_25 (pc' := 26) rfl rfl rfl ?_
  refine g_iconst X23 hx hby d1_26 (pc' := 27) rfl (z := (0 : Int32)) rfl ?_
  refine Go.newarr X23 hx hZ (n := 0) (cap := 0) (ty := .int) rfl (wi hw 10 rfl) e23 (by decide) rfl (by decide) (by decide) (by decide) (by decide) (hb hby d1_27) (pc' := 29) rfl ?_
  intro T24 h24 b24 X24 e24 E24 hb24 V24
  have g25 : n0 ≤ b24 := by rw [hb24]; exact (Nat.le_trans z20 (Nat.le_of_eq (Wr.size W23).symm))
  have s26 : h0.size ≤ b24 := by rw [hb24]; exact ((((((K0.ext E2).wr W8 (Or.inl (List.mem_of_getElem? (i := 0) rfl))).ext E9).wr W15 (Or.inl (List.mem_of_getElem? (i := 0) rfl))).ext E16).wr W23 (Or.inl (List.mem_of_getElem? (i := 0) rfl))).1
  have V27 : ArF Z h24 b24 .int 0 (fun i => .int ((fun _ => (0 : Int32)) i)) := V24
  have K28 : Keep h0 h24 [a1] := (((((((K0.ext E2).wr W8 (Or.inl (List.mem_of_getElem? (i := 0) rfl))).ext E9).wr W15 (Or.inl (List.mem_of_getElem? (i := 0) rfl))).ext E16).wr W23 (Or.inl (List.mem_of_getElem? (i := 0) rfl))).ext E24)
  have f29 := (((((((P4.ext E2).other W8 (Or.inr (slot_ne (Or.inl (wi hw 18 rfl)) (Or.inl (wi hw 12 rfl)) (by decide) (t := (.array .int)) (t' := (.array .int)) (by decide) (by decide)))).ext E9).other W15 (Or.inr (slot_ne (Or.inl (wi hw 18 rfl)) (Or.inl (wi hw 14 rfl)) (by decide) (t := (.array .int)) (t' := (.array .int)) (by decide) (by decide)))).ext E16).other W23 (Or.inr (slot_ne (Or.inl (wi hw 18 rfl)) (Or.inl (wi hw 16 rfl)) (by decide) (t := (.array .int)) (t' := (.array .int)) (by decide) (by decide)))).ext E24)
  have f30 := ((f22.wr W23).ext E24)
  refine g_putf X24 hx hby hZ hown (host := "") (Or.inl (wi hw 17 rfl)) Via.refl e24 f29 f30 (Or.inl (wi hw 18 rfl)) (wi hw 2 rfl) (ty := (.array .int)) (by decide) rfl rfl d1_29 (pc' := 32) rfl ?_
  intro T31 h31 X31 e31 W31 F31
  refine g_aloadN X31 hx hby d1_32 (pc' := 33) rfl rfl rfl ?_
  refine g_iconst X31 hx hby d1_33 (pc' := 34) rfl (z := (0 : Int32)) rfl ?_
  refine Go.newarr X31 hx hZ (n := 0) (cap := 0) (ty := .double) rfl (wi hw 19 rfl) e31 (by decide) rfl (by decide) (by decide) (by decide) (by decide) (hb hby d1_34) (pc' := 36) rfl ?_
  intro T32 h32 b32 X32 e32 E32 hb32 V32
  have g33 : n0 ≤ b32 := by rw [hb32]; exact (Nat.le_trans (Nat.le_trans (Nat.le_trans z20 (Nat.le_of_eq (Wr.size W23).symm)) E24.1) (Nat.le_of_eq (Wr.size W31).symm))
  have s34 : h0.size ≤ b32 := by rw [hb32]; exact (K28.wr W31 (Or.inl (List.mem_of_getElem? (i := 0) rfl))).1
  have V35 : ArF Z h32 b32 .double 0 (fun i => .double ((fun _ => (0 : UInt64)) i)) := V32
  have f36 := (((((((((P5.ext E2).other W8 (Or.inr (slot_ne (Or.inl (wi hw 21 rfl)) (Or.inl (wi hw 12 rfl)) (by decide) (t := (.array .double)) (t' := (.array .int)) (by decide) (by decide)))).ext E9).other W15 (Or.inr (slot_ne (Or.inl (wi hw 21 rfl)) (Or.inl (wi hw 14 rfl)) (by decide) (t := (.array .double)) (t' := (.array .int)) (by decide) (by decide)))).ext E16).other W23 (Or.inr (slot_ne (Or.inl (wi hw 21 rfl)) (Or.inl (wi hw 16 rfl)) (by decide) (t := (.array .double)) (t' := (.array .int)) (by decide) (by decide)))).ext E24).other W31 (Or.inr (slot_ne (Or.inl (wi hw 21 rfl)) (Or.inl (wi hw 18 rfl)) (by decide) (t := (.array .double)) (t' := (.array .int)) (by decide) (by decide)))).ext E32)
  have f37 := ((f30.wr W31).ext E32)
  refine g_putf X32 hx hby hZ hown (host := "") (Or.inl (wi hw 20 rfl)) Via.refl e32 f36 f37 (Or.inl (wi hw 21 rfl)) (wi hw 2 rfl) (ty := (.array .double)) (by decide) rfl rfl d1_36 (pc' := 39) rfl ?_
  intro T38 h38 X38 e38 W38 F38
  have z39 : n0 ≤ h38.size := (Nat.le_trans (Nat.le_trans (Nat.le_trans (Nat.le_trans (Nat.le_trans z20 (Nat.le_of_eq (Wr.size W23).symm)) E24.1) (Nat.le_of_eq (Wr.size W31).symm)) E32.1) (Nat.le_of_eq (Wr.size W38).symm))
  refine g_aloadN X38 hx hby d1_39 (pc' := 40) rfl rfl rfl ?_
  refine g_iconst X38 hx hby d1_40 (pc' := 41) rfl (z := (0 : Int32)) rfl ?_
  refine Go.newarr X38 hx hZ (n := 0) (cap := 0) (ty := .int) rfl (wi hw 10 rfl) e38 (by decide) rfl (by decide) (by decide) (by decide) (by decide) (hb hby d1_41) (pc' := 43) rfl ?_
  intro T40 h40 b40 X40 e40 E40 hb40 V40
  have g41 : n0 ≤ b40 := by rw [hb40]; exact z39
  have s42 : h0.size ≤ b40 := by rw [hb40]; exact (((K28.wr W31 (Or.inl (List.mem_of_getElem? (i := 0) rfl))).ext E32).wr W38 (Or.inl (List.mem_of_getElem? (i := 0) rfl))).1
  have V43 : ArF Z h40 b40 .int 0 (fun i => .int ((fun _ => (0 : Int32)) i)) := V40
  have f44 := (((((((((((P6.ext E2).other W8 (Or.inr (slot_ne (Or.inl (wi hw 23 rfl)) (Or.inl (wi hw 12 rfl)) (by decide) (t := (.array .int)) (t' := (.array .int)) (by decide) (by decide)))).ext E9).other W15 (Or.inr (slot_ne (Or.inl (wi hw 23 rfl)) (Or.inl (wi hw 14 rfl)) (by decide) (t := (.array .int)) (t' := (.array .int)) (by decide) (by decide)))).ext E16).other W23 (Or.inr (slot_ne (Or.inl (wi hw 23 rfl)) (Or.inl (wi hw 16 rfl)) (by decide) (t := (.array .int)) (t' := (.array .int)) (by decide) (by decide)))).ext E24).other W31 (Or.inr (slot_ne (Or.inl (wi hw 23 rfl)) (Or.inl (wi hw 18 rfl)) (by decide) (t := (.array .int)) (t' := (.array .int)) (by decide) (by decide)))).ext E32).other W38 (Or.inr (slot_ne (Or.inl (wi hw 23 rfl)) (Or.inl (wi hw 21 rfl)) (by decide) (t := (.array .int)) (t' := (.array .double)) (by decide) (by decide)))).ext E40)
  have f45 := ((f37.wr W38).ext E40)
  refine g_putf X40 hx hby hZ hown (host := "") (Or.inl (wi hw 22 rfl)) Via.refl e40 f44 f45 (Or.inl (wi hw 23 rfl)) (wi hw 2 rfl) (ty := (.array .int)) (by decide) rfl rfl d1_43 (pc' := 46) rfl ?_
  intro T46 h46 X46 e46 W46 F46
  have N46 := (Fr.snoc X46 (Fr.snoc X38 (Fr.snoc X31 (Fr.snoc X23 (Fr.snoc X15 (Fr.snoc X8 N0 ge_a1) ge_a1) ge_a1) ge_a1) ge_a1) ge_a1)
  refine g_aloadN X46 hx hby d1_46 (pc' := 47) rfl rfl rfl ?_
  refine g_iconst X46 hx hby d1_47 (pc' := 48) rfl (z := (0 : Int32)) rfl ?_
  refine Go.newarr X46 hx hZ (n := 0) (cap := 0) (ty := .long) rfl (wi hw 24 rfl) e46 (by decide) rfl (by decide) (by decide) (by decide) (by decide) (hb hby d1_48) (pc' := 50) rfl ?_
  intro T47 h47 b47 X47 e47 E47 hb47 V47
  have g48 : n0 ≤ b47 := by rw [hb47]; exact (Nat.le_trans (Nat.le_trans z39 E40.1) (Nat.le_of_eq (Wr.size W46).symm))
  have s49 : h0.size ≤ b47 := by rw [hb47]; exact (((((K28.wr W31 (Or.inl (List.mem_of_getElem? (i := 0) rfl))).ext E32).wr W38 (Or.inl (List.mem_of_getElem? (i := 0) rfl))).ext E40).wr W46 (Or.inl (List.mem_of_getElem? (i := 0) rfl))).1
  have V50 : ArF Z h47 b47 .long 0 (fun i => .long ((fun _ => (0 : Int64)) i)) := V47
  have f51 := (((((((((((((P7.ext E2).other W8 (Or.inr (slot_ne (Or.inl (wi hw 26 rfl)) (Or.inl (wi hw 12 rfl)) (by decide) (t := (.array .long)) (t' := (.array .int)) (by decide) (by decide)))).ext E9).other W15 (Or.inr (slot_ne (Or.inl (wi hw 26 rfl)) (Or.inl (wi hw 14 rfl)) (by decide) (t := (.array .long)) (t' := (.array .int)) (by decide) (by decide)))).ext E16).other W23 (Or.inr (slot_ne (Or.inl (wi hw 26 rfl)) (Or.inl (wi hw 16 rfl)) (by decide) (t := (.array .long)) (t' := (.array .int)) (by decide) (by decide)))).ext E24).other W31 (Or.inr (slot_ne (Or.inl (wi hw 26 rfl)) (Or.inl (wi hw 18 rfl)) (by decide) (t := (.array .long)) (t' := (.array .int)) (by decide) (by decide)))).ext E32).other W38 (Or.inr (slot_ne (Or.inl (wi hw 26 rfl)) (Or.inl (wi hw 21 rfl)) (by decide) (t := (.array .long)) (t' := (.array .double)) (by decide) (by decide)))).ext E40).other W46 (Or.inr (slot_ne (Or.inl (wi hw 26 rfl)) (Or.inl (wi hw 23 rfl)) (by decide) (t := (.array .long)) (t' := (.array .int)) (by decide) (by decide)))).ext E47)
  have f52 := ((f45.wr W46).ext E47)
  refine g_putf X47 hx hby hZ hown (host := "") (Or.inl (wi hw 25 rfl)) Via.refl e47 f51 f52 (Or.inl (wi hw 26 rfl)) (wi hw 2 rfl) (ty := (.array .long)) (by decide) rfl rfl d1_50 (pc' := 53) rfl ?_
  intro T53 h53 X53 e53 W53 F53
  have K54 : Keep h0 h53 [a1] := (((((((K28.wr W31 (Or.inl (List.mem_of_getElem? (i := 0) rfl))).ext E32).wr W38 (Or.inl (List.mem_of_getElem? (i := 0) rfl))).ext E40).wr W46 (Or.inl (List.mem_of_getElem? (i := 0) rfl))).ext E47).wr W53 (Or.inl (List.mem_of_getElem? (i := 0) rfl)))
  refine g_aloadN X53 hx hby d1_53 (pc' := 54) rfl rfl rfl ?_
  refine g_iloadN X53 hx hby d1_54 (pc' := 55) rfl rfl ?_
  have f55 := ((((((((((((((P8.ext E2).other W8 (Or.inr (slot_ne (Or.inr (wi hw 28 rfl)) (Or.inl (wi hw 12 rfl)) (by decide) (t := .boolean) (t' := (.array .int)) (by decide) (by decide)))).ext E9).other W15 (Or.inr (slot_ne (Or.inr (wi hw 28 rfl)) (Or.inl (wi hw 14 rfl)) (by decide) (t := .boolean) (t' := (.array .int)) (by decide) (by decide)))).ext E16).other W23 (Or.inr (slot_ne (Or.inr (wi hw 28 rfl)) (Or.inl (wi hw 16 rfl)) (by decide) (t := .boolean) (t' := (.array .int)) (by decide) (by decide)))).ext E24).other W31 (Or.inr (slot_ne (Or.inr (wi hw 28 rfl)) (Or.inl (wi hw 18 rfl)) (by decide) (t := .boolean) (t' := (.array .int)) (by decide) (by decide)))).ext E32).other W38 (Or.inr (slot_ne (Or.inr (wi hw 28 rfl)) (Or.inl (wi hw 21 rfl)) (by decide) (t := .boolean) (t' := (.array .double)) (by decide) (by decide)))).ext E40).other W46 (Or.inr (slot_ne (Or.inr (wi hw 28 rfl)) (Or.inl (wi hw 23 rfl)) (by decide) (t := .boolean) (t' := (.array .int)) (by decide) (by decide)))).ext E47).other W53 (Or.inr (slot_ne (Or.inr (wi hw 28 rfl)) (Or.inl (wi hw 26 rfl)) (by decide) (t := .boolean) (t' := (.array .long)) (by decide) (by decide))))
  have f56 := f52.wr W53
  obtain ⟨T57, h57, X57, e57, W57, st57⟩ := putFN X53 hx hZ hown (wi hw 27 rfl) Via.refl e53 f55 f56 (Or.inr ⟨(wi hw 28 rfl), rfl, hnm⟩) (wi hw 2 rfl) (ty := .boolean) (v' := (.int (1 : Int32))) (by decide) rfl rfl (g := (mkF m 55 #[.val (.ref a1), .val (.int (1 : Int32))] [(.int (1 : Int32)), (.ref a1)])) rfl rfl (hb hby d1_55)
  refine Go.of st57 ?_
  have F57 := f55.same W57
  have z58 : n0 ≤ h57.size := (Nat.le_trans (Nat.le_trans (Nat.le_trans (Nat.le_trans (Nat.le_trans z39 E40.1) (Nat.le_of_eq (Wr.size W46).symm)) E47.1) (Nat.le_of_eq (Wr.size W53).symm)) (Nat.le_of_eq (Wr.size W57).symm))
  show Go p.tables e below s _ _ _ (T57.setTop (mkF m 58 #[.val (.ref a1), .val (.int (1 : Int32))] []))
  refine Go.retV X57 hx hlk hret (hb hby d1_58) rfl (by decide) (by decide) ?_
  have f59 := (((((((((((((F8.ext E9).other W15 (Or.inr (slot_ne (Or.inl (wi hw 12 rfl)) (Or.inl (wi hw 14 rfl)) (by decide) (t := (.array .int)) (t' := (.array .int)) (by decide) (by decide)))).ext E16).other W23 (Or.inr (slot_ne (Or.inl (wi hw 12 rfl)) (Or.inl (wi hw 16 rfl)) (by decide) (t := (.array .int)) (t' := (.array .int)) (by decide) (by decide)))).ext E24).other W31 (Or.inr (slot_ne (Or.inl (wi hw 12 rfl)) (Or.inl (wi hw 18 rfl)) (by decide) (t := (.array .int)) (t' := (.array .int)) (by decide) (by decide)))).ext E32).other W38 (Or.inr (slot_ne (Or.inl (wi hw 12 rfl)) (Or.inl (wi hw 21 rfl)) (by decide) (t := (.array .int)) (t' := (.array .double)) (by decide) (by decide)))).ext E40).other W46 (Or.inr (slot_ne (Or.inl (wi hw 12 rfl)) (Or.inl (wi hw 23 rfl)) (by decide) (t := (.array .int)) (t' := (.array .int)) (by decide) (by decide)))).ext E47).other W53 (Or.inr (slot_ne (Or.inl (wi hw 12 rfl)) (Or.inl (wi hw 26 rfl)) (by decide) (t := (.array .int)) (t' := (.array .long)) (by decide) (by decide)))).other W57 (Or.inr (slot_ne (Or.inl (wi hw 12 rfl)) (Or.inr (wi hw 28 rfl)) (by decide) (t := (.array .int)) (t' := .boolean) (by decide) (by decide))))
  have f60 := (((((((((((F15.ext E16).other W23 (Or.inr (slot_ne (Or.inl (wi hw 14 rfl)) (Or.inl (wi hw 16 rfl)) (by decide) (t := (.array .int)) (t' := (.array .int)) (by decide) (by decide)))).ext E24).other W31 (Or.inr (slot_ne (Or.inl (wi hw 14 rfl)) (Or.inl (wi hw 18 rfl)) (by decide) (t := (.array .int)) (t' := (.array .int)) (by decide) (by decide)))).ext E32).other W38 (Or.inr (slot_ne (Or.inl (wi hw 14 rfl)) (Or.inl (wi hw 21 rfl)) (by decide) (t := (.array .int)) (t' := (.array .double)) (by decide) (by decide)))).ext E40).other W46 (Or.inr (slot_ne (Or.inl (wi hw 14 rfl)) (Or.inl (wi hw 23 rfl)) (by decide) (t := (.array .int)) (t' := (.array .int)) (by decide) (by decide)))).ext E47).other W53 (Or.inr (slot_ne (Or.inl (wi hw 14 rfl)) (Or.inl (wi hw 26 rfl)) (by decide) (t := (.array .int)) (t' := (.array .long)) (by decide) (by decide)))).other W57 (Or.inr (slot_ne (Or.inl (wi hw 14 rfl)) (Or.inr (wi hw 28 rfl)) (by decide) (t := (.array .int)) (t' := .boolean) (by decide) (by decide))))
  have f61 := (((((((((F23.ext E24).other W31 (Or.inr (slot_ne (Or.inl (wi hw 16 rfl)) (Or.inl (wi hw 18 rfl)) (by decide) (t := (.array .int)) (t' := (.array .int)) (by decide) (by decide)))).ext E32).other W38 (Or.inr (slot_ne (Or.inl (wi hw 16 rfl)) (Or.inl (wi hw 21 rfl)) (by decide) (t := (.array .int)) (t' := (.array .double)) (by decide) (by decide)))).ext E40).other W46 (Or.inr (slot_ne (Or.inl (wi hw 16 rfl)) (Or.inl (wi hw 23 rfl)) (by decide) (t := (.array .int)) (t' := (.array .int)) (by decide) (by decide)))).ext E47).other W53 (Or.inr (slot_ne (Or.inl (wi hw 16 rfl)) (Or.inl (wi hw 26 rfl)) (by decide) (t := (.array .int)) (t' := (.array .long)) (by decide) (by decide)))).other W57 (Or.inr (slot_ne (Or.inl (wi hw 16 rfl)) (Or.inr (wi hw 28 rfl)) (by decide) (t := (.array .int)) (t' := .boolean) (by decide) (by decide))))
  have f62 := (((((((F31.ext E32).other W38 (Or.inr (slot_ne (Or.inl (wi hw 18 rfl)) (Or.inl (wi hw 21 rfl)) (by decide) (t := (.array .int)) (t' := (.array .double)) (by decide) (by decide)))).ext E40).other W46 (Or.inr (slot_ne (Or.inl (wi hw 18 rfl)) (Or.inl (wi hw 23 rfl)) (by decide) (t := (.array .int)) (t' := (.array .int)) (by decide) (by decide)))).ext E47).other W53 (Or.inr (slot_ne (Or.inl (wi hw 18 rfl)) (Or.inl (wi hw 26 rfl)) (by decide) (t := (.array .int)) (t' := (.array .long)) (by decide) (by decide)))).other W57 (Or.inr (slot_ne (Or.inl (wi hw 18 rfl)) (Or.inr (wi hw 28 rfl)) (by decide) (t := (.array .int)) (t' := .boolean) (by decide) (by decide))))
  have f63 := (((((F38.ext E40).other W46 (Or.inr (slot_ne (Or.inl (wi hw 21 rfl)) (Or.inl (wi hw 23 rfl)) (by decide) (t := (.array .double)) (t' := (.array .int)) (by decide) (by decide)))).ext E47).other W53 (Or.inr (slot_ne (Or.inl (wi hw 21 rfl)) (Or.inl (wi hw 26 rfl)) (by decide) (t := (.array .double)) (t' := (.array .long)) (by decide) (by decide)))).other W57 (Or.inr (slot_ne (Or.inl (wi hw 21 rfl)) (Or.inr (wi hw 28 rfl)) (by decide) (t := (.array .double)) (t' := .boolean) (by decide) (by decide))))
  have f64 := (((F46.ext E47).other W53 (Or.inr (slot_ne (Or.inl (wi hw 23 rfl)) (Or.inl (wi hw 26 rfl)) (by decide) (t := (.array .int)) (t' := (.array .long)) (by decide) (by decide)))).other W57 (Or.inr (slot_ne (Or.inl (wi hw 23 rfl)) (Or.inr (wi hw 28 rfl)) (by decide) (t := (.array .int)) (t' := .boolean) (by decide) (by decide))))
  have f65 := (F53.other W57 (Or.inr (slot_ne (Or.inl (wi hw 26 rfl)) (Or.inr (wi hw 28 rfl)) (by decide) (t := (.array .long)) (t' := .boolean) (by decide) (by decide))))
  rw [e57]
  have ne66 : a1 ≠ b2 := Nat.ne_of_lt (by rw [hb2]; exact P11.lt)
  have ne67 : b2 ≠ b9 := Nat.ne_of_lt (by rw [hb9]; exact (V5.other W8 (Ne.symm ne66)).lt)
  have ne68 : b2 ≠ b16 := Nat.ne_of_lt (by rw [hb16]; exact (((V5.other W8 (Ne.symm ne66)).ext E9).other W15 (Ne.symm ne66)).lt)
  have ne69 : b2 ≠ b24 := Nat.ne_of_lt (by rw [hb24]; exact (((((V5.other W8 (Ne.symm ne66)).ext E9).other W15 (Ne.symm ne66)).ext E16).other W23 (Ne.symm ne66)).lt)
  have ne70 : b2 ≠ b32 := Nat.ne_of_lt (by rw [hb32]; exact (((((((V5.other W8 (Ne.symm ne66)).ext E9).other W15 (Ne.symm ne66)).ext E16).other W23 (Ne.symm ne66)).ext E24).other W31 (Ne.symm ne66)).lt)
  have ne71 : b2 ≠ b40 := Nat.ne_of_lt (by rw [hb40]; exact (((((((((V5.other W8 (Ne.symm ne66)).ext E9).other W15 (Ne.symm ne66)).ext E16).other W23 (Ne.symm ne66)).ext E24).other W31 (Ne.symm ne66)).ext E32).other W38 (Ne.symm ne66)).lt)
  have ne72 : b2 ≠ b47 := Nat.ne_of_lt (by rw [hb47]; exact (((((((((((V5.other W8 (Ne.symm ne66)).ext E9).other W15 (Ne.symm ne66)).ext E16).other W23 (Ne.symm ne66)).ext E24).other W31 (Ne.symm ne66)).ext E32).other W38 (Ne.symm ne66)).ext E40).other W46 (Ne.symm ne66)).lt)
  have ne73 : a1 ≠ b9 := Nat.ne_of_lt (by rw [hb9]; exact F8.lt)
  have ne74 : b9 ≠ b16 := Nat.ne_of_lt (by rw [hb16]; exact (V12.other W15 (Ne.symm ne73)).lt)
  have ne75 : b9 ≠ b24 := Nat.ne_of_lt (by rw [hb24]; exact (((V12.other W15 (Ne.symm ne73)).ext E16).other W23 (Ne.symm ne73)).lt)
  have ne76 : b9 ≠ b32 := Nat.ne_of_lt (by rw [hb32]; exact (((((V12.other W15 (Ne.symm ne73)).ext E16).other W23 (Ne.symm ne73)).ext E24).other W31 (Ne.symm ne73)).lt)
  have ne77 : b9 ≠ b40 := Nat.ne_of_lt (by rw [hb40]; exact (((((((V12.other W15 (Ne.symm ne73)).ext E16).other W23 (Ne.symm ne73)).ext E24).other W31 (Ne.symm ne73)).ext E32).other W38 (Ne.symm ne73)).lt)
  have ne78 : b9 ≠ b47 := Nat.ne_of_lt (by rw [hb47]; exact (((((((((V12.other W15 (Ne.symm ne73)).ext E16).other W23 (Ne.symm ne73)).ext E24).other W31 (Ne.symm ne73)).ext E32).other W38 (Ne.symm ne73)).ext E40).other W46 (Ne.symm ne73)).lt)
  have ne79 : a1 ≠ b16 := Nat.ne_of_lt (by rw [hb16]; exact F15.lt)
  have ne80 : b16 ≠ b24 := Nat.ne_of_lt (by rw [hb24]; exact (V19.other W23 (Ne.symm ne79)).lt)
  have ne81 : b16 ≠ b32 := Nat.ne_of_lt (by rw [hb32]; exact (((V19.other W23 (Ne.symm ne79)).ext E24).other W31 (Ne.symm ne79)).lt)
  have ne82 : b16 ≠ b40 := Nat.ne_of_lt (by rw [hb40]; exact (((((V19.other W23 (Ne.symm ne79)).ext E24).other W31 (Ne.symm ne79)).ext E32).other W38 (Ne.symm ne79)).lt)
  have ne83 : b16 ≠ b47 := Nat.ne_of_lt (by rw [hb47]; exact (((((((V19.other W23 (Ne.symm ne79)).ext E24).other W31 (Ne.symm ne79)).ext E32).other W38 (Ne.symm ne79)).ext E40).other W46 (Ne.symm ne79)).lt)
  have ne84 : a1 ≠ b24 := Nat.ne_of_lt (by rw [hb24]; exact F23.lt)
  have ne85 : b24 ≠ b32 := Nat.ne_of_lt (by rw [hb32]; exact (V27.other W31 (Ne.symm ne84)).lt)
  have ne86 : b24 ≠ b40 := Nat.ne_of_lt (by rw [hb40]; exact (((V27.other W31 (Ne.symm ne84)).ext E32).other W38 (Ne.symm ne84)).lt)
  have ne87 : b24 ≠ b47 := Nat.ne_of_lt (by rw [hb47]; exact (((((V27.other W31 (Ne.symm ne84)).ext E32).other W38 (Ne.symm ne84)).ext E40).other W46 (Ne.symm ne84)).lt)
  have ne88 : a1 ≠ b32 := Nat.ne_of_lt (by rw [hb32]; exact F31.lt)
  have ne89 : b32 ≠ b40 := Nat.ne_of_lt (by rw [hb40]; exact (V35.other W38 (Ne.symm ne88)).lt)
  have ne90 : b32 ≠ b47 := Nat.ne_of_lt (by rw [hb47]; exact (((V35.other W38 (Ne.symm ne88)).ext E40).other W46 (Ne.symm ne88)).lt)
  have ne91 : a1 ≠ b40 := Nat.ne_of_lt (by rw [hb40]; exact F38.lt)
  have ne92 : b40 ≠ b47 := Nat.ne_of_lt (by rw [hb47]; exact (V43.other W46 (Ne.symm ne91)).lt)
  have f93 := (((((((((((((((P9.ext E2).other W8 (Or.inr (slot_ne (Or.inl (wi hw 35 rfl)) (Or.inl (wi hw 12 rfl)) (by decide) (t := .int) (t' := (.array .int)) (by decide) (by decide)))).ext E9).other W15 (Or.inr (slot_ne (Or.inl (wi hw 35 rfl)) (Or.inl (wi hw 14 rfl)) (by decide) (t := .int) (t' := (.array .int)) (by decide) (by decide)))).ext E16).other W23 (Or.inr (slot_ne (Or.inl (wi hw 35 rfl)) (Or.inl (wi hw 16 rfl)) (by decide) (t := .int) (t' := (.array .int)) (by decide) (by decide)))).ext E24).other W31 (Or.inr (slot_ne (Or.inl (wi hw 35 rfl)) (Or.inl (wi hw 18 rfl)) (by decide) (t := .int) (t' := (.array .int)) (by decide) (by decide)))).ext E32).other W38 (Or.inr (slot_ne (Or.inl (wi hw 35 rfl)) (Or.inl (wi hw 21 rfl)) (by decide) (t := .int) (t' := (.array .double)) (by decide) (by decide)))).ext E40).other W46 (Or.inr (slot_ne (Or.inl (wi hw 35 rfl)) (Or.inl (wi hw 23 rfl)) (by decide) (t := .int) (t' := (.array .int)) (by decide) (by decide)))).ext E47).other W53 (Or.inr (slot_ne (Or.inl (wi hw 35 rfl)) (Or.inl (wi hw 26 rfl)) (by decide) (t := .int) (t' := (.array .long)) (by decide) (by decide)))).other W57 (Or.inr (slot_ne (Or.inl (wi hw 35 rfl)) (Or.inr (wi hw 28 rfl)) (by decide) (t := .int) (t' := .boolean) (by decide) (by decide))))
  have f94 := (((((((((((((((P10.ext E2).other W8 (Or.inr (slot_ne (Or.inl (wi hw 70 rfl)) (Or.inl (wi hw 12 rfl)) (by decide) (t := .int) (t' := (.array .int)) (by decide) (by decide)))).ext E9).other W15 (Or.inr (slot_ne (Or.inl (wi hw 70 rfl)) (Or.inl (wi hw 14 rfl)) (by decide) (t := .int) (t' := (.array .int)) (by decide) (by decide)))).ext E16).other W23 (Or.inr (slot_ne (Or.inl (wi hw 70 rfl)) (Or.inl (wi hw 16 rfl)) (by decide) (t := .int) (t' := (.array .int)) (by decide) (by decide)))).ext E24).other W31 (Or.inr (slot_ne (Or.inl (wi hw 70 rfl)) (Or.inl (wi hw 18 rfl)) (by decide) (t := .int) (t' := (.array .int)) (by decide) (by decide)))).ext E32).other W38 (Or.inr (slot_ne (Or.inl (wi hw 70 rfl)) (Or.inl (wi hw 21 rfl)) (by decide) (t := .int) (t' := (.array .double)) (by decide) (by decide)))).ext E40).other W46 (Or.inr (slot_ne (Or.inl (wi hw 70 rfl)) (Or.inl (wi hw 23 rfl)) (by decide) (t := .int) (t' := (.array .int)) (by decide) (by decide)))).ext E47).other W53 (Or.inr (slot_ne (Or.inl (wi hw 70 rfl)) (Or.inl (wi hw 26 rfl)) (by decide) (t := .int) (t' := (.array .long)) (by decide) (by decide)))).other W57 (Or.inr (slot_ne (Or.inl (wi hw 70 rfl)) (Or.inr (wi hw 28 rfl)) (by decide) (t := .int) (t' := .boolean) (by decide) (by decide))))
  have f95 := (((((((((((((((P11.ext E2).other W8 (Or.inr (slot_ne (Or.inl (wi hw 72 rfl)) (Or.inl (wi hw 12 rfl)) (by decide) (t := .long) (t' := (.array .int)) (by decide) (by decide)))).ext E9).other W15 (Or.inr (slot_ne (Or.inl (wi hw 72 rfl)) (Or.inl (wi hw 14 rfl)) (by decide) (t := .long) (t' := (.array .int)) (by decide) (by decide)))).ext E16).other W23 (Or.inr (slot_ne (Or.inl (wi hw 72 rfl)) (Or.inl (wi hw 16 rfl)) (by decide) (t := .long) (t' := (.array .int)) (by decide) (by decide)))).ext E24).other W31 (Or.inr (slot_ne (Or.inl (wi hw 72 rfl)) (Or.inl (wi hw 18 rfl)) (by decide) (t := .long) (t' := (.array .int)) (by decide) (by decide)))).ext E32).other W38 (Or.inr (slot_ne (Or.inl (wi hw 72 rfl)) (Or.inl (wi hw 21 rfl)) (by decide) (t := .long) (t' := (.array .double)) (by decide) (by decide)))).ext E40).other W46 (Or.inr (slot_ne (Or.inl (wi hw 72 rfl)) (Or.inl (wi hw 23 rfl)) (by decide) (t := .long) (t' := (.array .int)) (by decide) (by decide)))).ext E47).other W53 (Or.inr (slot_ne (Or.inl (wi hw 72 rfl)) (Or.inl (wi hw 26 rfl)) (by decide) (t := .long) (t' := (.array .long)) (by decide) (by decide)))).other W57 (Or.inr (slot_ne (Or.inl (wi hw 72 rfl)) (Or.inr (wi hw 28 rfl)) (by decide) (t := .long) (t' := .boolean) (by decide) (by decide))))
  have f96 := ((((((((((((((V5.other W8 (Ne.symm ne66)).ext E9).other W15 (Ne.symm ne66)).ext E16).other W23 (Ne.symm ne66)).ext E24).other W31 (Ne.symm ne66)).ext E32).other W38 (Ne.symm ne66)).ext E40).other W46 (Ne.symm ne66)).ext E47).other W53 (Ne.symm ne66)).other W57 (Ne.symm ne66))
  have f97 := ((((((((((((V12.other W15 (Ne.symm ne73)).ext E16).other W23 (Ne.symm ne73)).ext E24).other W31 (Ne.symm ne73)).ext E32).other W38 (Ne.symm ne73)).ext E40).other W46 (Ne.symm ne73)).ext E47).other W53 (Ne.symm ne73)).other W57 (Ne.symm ne73))
  have f98 := ((((((((((V19.other W23 (Ne.symm ne79)).ext E24).other W31 (Ne.symm ne79)).ext E32).other W38 (Ne.symm ne79)).ext E40).other W46 (Ne.symm ne79)).ext E47).other W53 (Ne.symm ne79)).other W57 (Ne.symm ne79))
  have f99 := ((((((((V27.other W31 (Ne.symm ne84)).ext E32).other W38 (Ne.symm ne84)).ext E40).other W46 (Ne.symm ne84)).ext E47).other W53 (Ne.symm ne84)).other W57 (Ne.symm ne84))
  have f100 := ((((((V35.other W38 (Ne.symm ne88)).ext E40).other W46 (Ne.symm ne88)).ext E47).other W53 (Ne.symm ne88)).other W57 (Ne.symm ne88))
  have f101 := ((((V43.other W46 (Ne.symm ne91)).ext E47).other W53 (Ne.symm ne91)).other W57 (Ne.symm ne91))
  have ne102 : a1 ≠ b47 := Nat.ne_of_lt (by rw [hb47]; exact F46.lt)
  have f103 := ((V50.other W53 (Ne.symm ne102)).other W57 (Ne.symm ne102))
  exact ⟨b2, b9, b16, b24, b32, b40, b47, rfl, (Fr.snoc X57 (Fr.snoc X53 N46 ge_a1) ge_a1), (K54.wr W57 (Or.inl (List.mem_of_getElem? (i := 0) rfl))), g3, s4, g10, s11, g17, s18, g25, s26, g33, s34, g41, s42, g48, s49, ne67, ne68, ne69, ne70, ne71, ne72, ne74, ne75, ne76, ne77, ne78, ne80, ne81, ne82, ne83, ne85, ne86, ne87, ne89, ne90, ne92, f59, f60, f61, f62, f63, f64, f65, F57, f93, f94, f95, f96, f97, f98, f99, f100, f101, f103⟩
theorem d5_0 : decode jdk_29_method_66_code 0 = .ok (.lload_n 0, 1) := by decide +kernel
theorem d5_1 : decode jdk_29_method_66_code 1 = .ok (.lload_n 2, 1) := by decide +kernel
theorem d5_2 : decode jdk_29_method_66_code 2 = .ok (.lcmp, 1) := by decide +kernel
theorem d5_3 : decode jdk_29_method_66_code 3 = .ok (.ifCond .lt 7, 3) := by decide +kernel
theorem d5_6 : decode jdk_29_method_66_code 6 = .ok (.lload_n 0, 1) := by decide +kernel
theorem d5_7 : decode jdk_29_method_66_code 7 = .ok (.goto 4, 3) := by decide +kernel
theorem d5_11 : decode jdk_29_method_66_code 11 = .ok (.lreturn, 1) := by decide +kernel
theorem ef_rm_maxJ (m : MethodId) (x0 : Int64) (x1 : Int64) : entryFrame m #[(.long x0), (.long x1)] 4 = mkF m 0 #[.val (.long x0), .second, .val (.long x1), .second] [] := by first | (simp [entryFrame, mkF, argsToLocals, Value.category]; done) | rfl
set_option maxRecDepth 65536 in
set_option maxHeartbeats 40000000 in
theorem rm_maxJ (l : Launch) (Z : State) (a0 : Array Value) (hw : ∀ d ∈ tables_1, d.before a0 Z = true) (q1 : Int64) (q2 : Int64) (h0 : Heap) (n0 : Nat) (Z0 : n0 ≤ h0.size) (y1 : q2.toInt ≤ q1.toInt) :
    Con l Z (⟨"java/lang/Math", "max", "(JJ)J"⟩ : MethodName) jdk_29_method_66_code 4 (some .long) ({ frames := 0, cells := 0, slots := 0, locals := 0 } : Room) #[(.long q1), (.long q2)] h0 (fun v h L => v = some (.long q1) ∧ Fr n0 L ∧ h = h0) := by
  refine meet (y := (⟨"java/lang/Math", "max", "(JJ)J"⟩ : MethodName)) (Q := fun v h L => v = some (.long q1) ∧ Fr n0 L ∧ h = h0) (Jvm.Free.JP.mathPlain rfl (by decide +kernel)) (fun m => ef_rm_maxJ m q1 q2) ?_
  intro p e s m below meth c T0 hx hby hml hZ hown hnm hret hlk X0 e0
  have N0 := Fr.nil n0
  refine g_lloadN X0 hx hby d5_0 (pc' := 1) rfl rfl ?_
  refine g_lloadN X0 hx hby d5_1 (pc' := 2) rfl rfl ?_
  refine g_lcmp X0 hx hby d5_2 (pc' := 3) rfl  ?_
  have hc3 : ¬ (q1.toInt < q2.toInt) := by omega
  refine g_ifNo X0 hx hby d5_3 (pc' := 6) (flt (show ¬ ((lcmpW q1 q2) < (0 : Int32)) from fun q => hc3 (Int64.lt_iff_toInt_lt.mp ((lw_lt q1 q2).mp q)))).1 rfl ?_
  refine g_lloadN X0 hx hby d5_6 (pc' := 7) rfl rfl ?_
  refine g_goto X0 hx hby d5_7 (pc' := 11) (by decide) (by decide) ?_
  refine Go.retL X0 hx hlk hret (hb hby d5_11) (by decide) (by decide) ?_
  exact ⟨rfl, N0, e0⟩
theorem d6_0 : decode jdk_29_method_70_code 0 = .ok (.lload_n 0, 1) := by decide +kernel
theorem d6_1 : decode jdk_29_method_70_code 1 = .ok (.lload_n 2, 1) := by decide +kernel
theorem d6_2 : decode jdk_29_method_70_code 2 = .ok (.lcmp, 1) := by decide +kernel
theorem d6_3 : decode jdk_29_method_70_code 3 = .ok (.ifCond .gt 7, 3) := by decide +kernel
theorem d6_10 : decode jdk_29_method_70_code 10 = .ok (.lload_n 2, 1) := by decide +kernel
theorem d6_11 : decode jdk_29_method_70_code 11 = .ok (.lreturn, 1) := by decide +kernel
theorem ef_rm_minJ (m : MethodId) (x0 : Int64) (x1 : Int64) : entryFrame m #[(.long x0), (.long x1)] 4 = mkF m 0 #[.val (.long x0), .second, .val (.long x1), .second] [] := by first | (simp [entryFrame, mkF, argsToLocals, Value.category]; done) | rfl
set_option maxRecDepth 65536 in
set_option maxHeartbeats 40000000 in
theorem rm_minJ (l : Launch) (Z : State) (a0 : Array Value) (hw : ∀ d ∈ tables_1, d.before a0 Z = true) (q1 : Int64) (q2 : Int64) (h0 : Heap) (n0 : Nat) (Z0 : n0 ≤ h0.size) (y1 : q2.toInt < q1.toInt) :
    Con l Z (⟨"java/lang/Math", "min", "(JJ)J"⟩ : MethodName) jdk_29_method_70_code 4 (some .long) ({ frames := 0, cells := 0, slots := 0, locals := 0 } : Room) #[(.long q1), (.long q2)] h0 (fun v h L => v = some (.long q2) ∧ Fr n0 L ∧ h = h0) := by
  refine meet (y := (⟨"java/lang/Math", "min", "(JJ)J"⟩ : MethodName)) (Q := fun v h L => v = some (.long q2) ∧ Fr n0 L ∧ h = h0) (Jvm.Free.JP.mathPlain rfl (by decide +kernel)) (fun m => ef_rm_minJ m q1 q2) ?_
  intro p e s m below meth c T0 hx hby hml hZ hown hnm hret hlk X0 e0
  have N0 := Fr.nil n0
  refine g_lloadN X0 hx hby d6_0 (pc' := 1) rfl rfl ?_
  refine g_lloadN X0 hx hby d6_1 (pc' := 2) rfl rfl ?_
  refine g_lcmp X0 hx hby d6_2 (pc' := 3) rfl  ?_
  have hc3 : q2.toInt < q1.toInt := by omega
  refine g_ifYes X0 hx hby d6_3 (pc' := 10) (tlt (show (0 : Int32) < (lcmpW q1 q2) from (lw_gt q1 q2).mpr (Int64.lt_iff_toInt_lt.mpr hc3))).2.2.1 (by decide) (by decide) ?_
  refine g_lloadN X0 hx hby d6_10 (pc' := 11) rfl rfl ?_
  refine Go.retL X0 hx hlk hret (hb hby d6_11) (by decide) (by decide) ?_
  exact ⟨rfl, N0, e0⟩
theorem d9_0 : decode jdk_29_method_69_code 0 = .ok (.iload_n 0, 1) := by decide +kernel
theorem d9_1 : decode jdk_29_method_69_code 1 = .ok (.iload_n 1, 1) := by decide +kernel
theorem d9_2 : decode jdk_29_method_69_code 2 = .ok (.if_icmp .gt 7, 3) := by decide +kernel
theorem d9_5 : decode jdk_29_method_69_code 5 = .ok (.iload_n 0, 1) := by decide +kernel
theorem d9_6 : decode jdk_29_method_69_code 6 = .ok (.goto 4, 3) := by decide +kernel
theorem d9_10 : decode jdk_29_method_69_code 10 = .ok (.ireturn, 1) := by decide +kernel
theorem ef_rm_minI (m : MethodId) (x0 : Int32) (x1 : Int32) : entryFrame m #[(.int x0), (.int x1)] 2 = mkF m 0 #[.val (.int x0), .val (.int x1)] [] := by first | (simp [entryFrame, mkF, argsToLocals, Value.category]; done) | rfl
set_option maxRecDepth 65536 in
set_option maxHeartbeats 40000000 in
theorem rm_minI (l : Launch) (Z : State) (a0 : Array Value) (hw : ∀ d ∈ tables_1, d.before a0 Z = true) (i1 : Int32) (i2 : Int32) (h0 : Heap) (n0 : Nat) (Z0 : n0 ≤ h0.size) (y1 : i1.toInt ≤ i2.toInt) :
    Con l Z (⟨"java/lang/Math", "min", "(II)I"⟩ : MethodName) jdk_29_method_69_code 2 (some .int) ({ frames := 0, cells := 0, slots := 0, locals := 0 } : Room) #[(.int i1), (.int i2)] h0 (fun v h L => v = some (.int i1) ∧ Fr n0 L ∧ h = h0) := by
  refine meet (y := (⟨"java/lang/Math", "min", "(II)I"⟩ : MethodName)) (Q := fun v h L => v = some (.int i1) ∧ Fr n0 L ∧ h = h0) (Jvm.Free.JP.mathPlain rfl (by decide +kernel)) (fun m => ef_rm_minI m i1 i2) ?_
  intro p e s m below meth c T0 hx hby hml hZ hown hnm hret hlk X0 e0
  have N0 := Fr.nil n0
  refine g_iloadN X0 hx hby d9_0 (pc' := 1) rfl rfl ?_
  refine g_iloadN X0 hx hby d9_1 (pc' := 2) rfl rfl ?_
  have hc2 : ¬ (i2.toInt < i1.toInt) := by omega
  refine g_icmpNo X0 hx hby d9_2 (pc' := 5) (flt (show ¬ (i2 < i1) from fun q => hc2 (Int32.lt_iff_toInt_lt.mp q))).2.2.1 rfl ?_
  refine g_iloadN X0 hx hby d9_5 (pc' := 6) rfl rfl ?_
  refine g_goto X0 hx hby d9_6 (pc' := 10) (by decide) (by decide) ?_
  refine Go.retI X0 hx hlk hret (hb hby d9_10) (by decide) (by decide) ?_
  exact ⟨rfl, N0, e0⟩
theorem d4_0 : decode prog_6_method_2_code 0 = .ok (.iload_n 0, 1) := by decide +kernel
theorem d4_1 : decode prog_6_method_2_code 1 = .ok (.ldc 11, 2) := by decide +kernel
theorem d4_3 : decode prog_6_method_2_code 3 = .ok (.if_icmp .lt 13, 3) := by decide +kernel
theorem d4_16 : decode prog_6_method_2_code 16 = .ok (.ldc2_w 19, 3) := by decide +kernel
theorem d4_19 : decode prog_6_method_2_code 19 = .ok (.ldc2_w 21, 3) := by decide +kernel
theorem d4_22 : decode prog_6_method_2_code 22 = .ok (.ldc2_w 23, 3) := by decide +kernel
theorem d4_25 : decode prog_6_method_2_code 25 = .ok (.iload_n 0, 1) := by decide +kernel
theorem d4_26 : decode prog_6_method_2_code 26 = .ok (.i2l, 1) := by decide +kernel
theorem d4_27 : decode prog_6_method_2_code 27 = .ok (.lmul, 1) := by decide +kernel
theorem d4_28 : decode prog_6_method_2_code 28 = .ok (.invokestatic 25, 3) := by decide +kernel
theorem pd0 : parseMethodDescriptor "(JJ)J" = some ⟨[.long, .long], some .long⟩ := by decide +kernel
theorem d4_31 : decode prog_6_method_2_code 31 = .ok (.invokestatic 31, 3) := by decide +kernel
theorem d4_34 : decode prog_6_method_2_code 34 = .ok (.l2i, 1) := by decide +kernel
theorem d4_35 : decode prog_6_method_2_code 35 = .ok (.ireturn, 1) := by decide +kernel
theorem ef_rm_next0 (m : MethodId)  : entryFrame m #[(.int (0 : Int32))] 1 = mkF m 0 #[.val (.int (0 : Int32))] [] := by first | (simp [entryFrame, mkF, argsToLocals, Value.category]; done) | rfl
theorem pn_com_example_edgewise_edgewise_Capacity : plainName "com/example/edgewise/edgewise/Capacity" = true := by first | (simp [plainName, overriddenIn]; done) | decide +kernel
set_option maxRecDepth 65536 in
set_option maxHeartbeats 40000000 in
theorem rm_next0 (l : Launch) (Z : State) (a0 : Array Value) (hw : ∀ d ∈ tables_1, d.before a0 Z = true)  (h0 : Heap) (n0 : Nat) (Z0 : n0 ≤ h0.size)  :
    Con l Z (⟨"com/example/edgewise/edgewise/Capacity", "next", "(I)I"⟩ : MethodName) prog_6_method_2_code 1 (some .int) ({ frames := 1, cells := 0, slots := 0, locals := 17 } : Room) #[(.int (0 : Int32))] h0 (fun v h L => v = some (.int (4 : Int32)) ∧ Fr n0 L ∧ h = h0) := by
  refine meet (y := (⟨"com/example/edgewise/edgewise/Capacity", "next", "(I)I"⟩ : MethodName)) (Q := fun v h L => v = some (.int (4 : Int32)) ∧ Fr n0 L ∧ h = h0) (plainFor_of_name pn_com_example_edgewise_edgewise_Capacity) (fun m => ef_rm_next0 m ) ?_
  intro p e s m below meth c T0 hx hby hml hZ hown hnm hret hlk X0 e0
  have N0 := Fr.nil n0
  refine g_iloadN X0 hx hby d4_0 (pc' := 1) rfl rfl ?_
  refine g_ldcI X0 hx hby hZ hown (wi hw 40 rfl) d4_1 (pc' := 3) rfl ?_
  have hc3 : (0 : Int) < (2147483639 : Int) := by decide
  refine g_icmpYes X0 hx hby d4_3 (pc' := 16) (tlt (show (0 : Int32) < (2147483639 : Int32) from Int32.lt_iff_toInt_lt.mpr hc3)).1 (by decide) (by decide) ?_
  refine g_ldcL X0 hx hby hZ hown (wi hw 41 rfl) d4_16 (pc' := 19) rfl ?_
  refine g_ldcL X0 hx hby hZ hown (wi hw 42 rfl) d4_19 (pc' := 22) rfl ?_
  refine g_ldcL X0 hx hby hZ hown (wi hw 43 rfl) d4_22 (pc' := 25) rfl ?_
  refine g_iloadN X0 hx hby d4_25 (pc' := 26) rfl rfl ?_
  refine g_i2l X0 hx hby d4_26 (pc' := 27) rfl (z := (0 : Int64)) rfl ?_
  refine g_lmul X0 hx hby d4_27 (pc' := 28) rfl (z := (0 : Int64)) rfl ?_
  refine Go.callS X0 hx hZ hown (wi hw 44 rfl) (wi hw 45 rfl) (wi hw 46 rfl) (wi hw 47 rfl) (by decide) e0 (argsL := [(.long (4 : Int64)), (.long (0 : Int64))]) (rest := [(.long (2147483639 : Int64))]) (W := 2) (rm_maxJ l Z a0 hw (4 : Int64) (0 : Int64) h0 n0 Z0 (by decide)) (hb hby d4_28) (by rw [hml]; rfl) rfl pd0 rfl rfl (by decide) (by decide) (by decide) (by decide) ?_
  intro v1 T1 L1 X1 hQ1
  obtain ⟨rfl, Nq1, hh1⟩ := hQ1
  have N1 := Fr.app N0 Nq1
  refine Go.push (pc' := 31) rfl ?_
  refine Go.callS X1 hx hZ hown (wi hw 48 rfl) (wi hw 49 rfl) (wi hw 46 rfl) (wi hw 50 rfl) (by decide) hh1 (argsL := [(.long (2147483639 : Int64)), (.long (4 : Int64))]) (rest := []) (W := 0) (rm_minJ l Z a0 hw (2147483639 : Int64) (4 : Int64) h0 n0 Z0 (by decide)) (hb hby d4_31) (by rw [hml]; rfl) rfl pd0 rfl rfl (by decide) (by decide) (by decide) (by decide) ?_
  intro v2 T2 L2 X2 hQ2
  obtain ⟨rfl, Nq2, hh2⟩ := hQ2
  have N2 := Fr.app N1 Nq2
  refine Go.push (pc' := 34) rfl ?_
  refine g_l2i X2 hx hby d4_34 (pc' := 35) rfl (z := (4 : Int32)) rfl ?_
  refine Go.retI X2 hx hlk hret (hb hby d4_35) (by decide) (by decide) ?_
  exact ⟨rfl, N2, hh2⟩
theorem d8_0 : decode jdk_65_method_123_code 0 = .ok (.iload_n 1, 1) := by decide +kernel
theorem d8_1 : decode jdk_65_method_123_code 1 = .ok (.aload_n 0, 1) := by decide +kernel
theorem d8_2 : decode jdk_65_method_123_code 2 = .ok (.arraylength, 1) := by decide +kernel
theorem d8_3 : decode jdk_65_method_123_code 3 = .ok (.if_icmp .ne 11, 3) := by decide +kernel
theorem d8_14 : decode jdk_65_method_123_code 14 = .ok (.iload_n 1, 1) := by decide +kernel
theorem d8_15 : decode jdk_65_method_123_code 15 = .ok (.newarray .int, 2) := by decide +kernel
theorem d8_17 : decode jdk_65_method_123_code 17 = .ok (.astore_n 2, 1) := by decide +kernel
theorem d8_18 : decode jdk_65_method_123_code 18 = .ok (.aload_n 0, 1) := by decide +kernel
theorem d8_19 : decode jdk_65_method_123_code 19 = .ok (.iconst 0, 1) := by decide +kernel
theorem d8_20 : decode jdk_65_method_123_code 20 = .ok (.aload_n 2, 1) := by decide +kernel
theorem d8_21 : decode jdk_65_method_123_code 21 = .ok (.iconst 0, 1) := by decide +kernel
theorem d8_22 : decode jdk_65_method_123_code 22 = .ok (.aload_n 0, 1) := by decide +kernel
theorem d8_23 : decode jdk_65_method_123_code 23 = .ok (.arraylength, 1) := by decide +kernel
theorem d8_24 : decode jdk_65_method_123_code 24 = .ok (.iload_n 1, 1) := by decide +kernel
theorem d8_25 : decode jdk_65_method_123_code 25 = .ok (.invokestatic 304, 3) := by decide +kernel
theorem pd1 : parseMethodDescriptor "(II)I" = some ⟨[.int, .int], some .int⟩ := by decide +kernel
theorem d8_28 : decode jdk_65_method_123_code 28 = .ok (.invokestatic 150, 3) := by decide +kernel
theorem d8_31 : decode jdk_65_method_123_code 31 = .ok (.aload_n 2, 1) := by decide +kernel
theorem d8_32 : decode jdk_65_method_123_code 32 = .ok (.areturn, 1) := by decide +kernel
theorem ef_rm_copyI (m : MethodId) (x0 : Addr) : entryFrame m #[(.ref x0), (.int (4 : Int32))] 3 = mkF m 0 #[.val (.ref x0), .val (.int (4 : Int32)), .unset] [] := by first | (simp [entryFrame, mkF, argsToLocals, Value.category]; done) | rfl
theorem pn_java_util_Arrays : plainName "java/util/Arrays" = true := by first | (simp [plainName, overriddenIn]; done) | decide +kernel
set_option maxRecDepth 65536 in
set_option maxHeartbeats 40000000 in
theorem rm_copyI (l : Launch) (Z : State) (a0 : Array Value) (hw : ∀ d ∈ tables_1, d.before a0 Z = true) (x1 : Addr) (g1 : Nat → Int32) (h0 : Heap) (n0 : Nat) (Z0 : n0 ≤ h0.size) (P0 : ArF Z h0 x1 .int 0 (fun i => .int (g1 i))) :
    Con l Z (⟨"java/util/Arrays", "copyOf", "([II)[I"⟩ : MethodName) jdk_65_method_123_code 3 (some (.array .int)) ({ frames := 1, cells := 1, slots := 4, locals := 40 } : Room) #[(.ref x1), (.int (4 : Int32))] h0 (fun v h L => ∃ (b1 : Addr), v = some (.ref b1) ∧ Fr n0 L ∧ Keep h0 h [] ∧ n0 ≤ b1 ∧ h0.size ≤ b1 ∧ ArF Z h b1 .int 4 (fun i => .int ((fun _ => (0 : Int32)) i))) := by
  refine meet (y := (⟨"java/util/Arrays", "copyOf", "([II)[I"⟩ : MethodName)) (Q := fun v h L => ∃ (b1 : Addr), v = some (.ref b1) ∧ Fr n0 L ∧ Keep h0 h [] ∧ n0 ≤ b1 ∧ h0.size ≤ b1 ∧ ArF Z h b1 .int 4 (fun i => .int ((fun _ => (0 : Int32)) i))) (plainFor_of_name pn_java_util_Arrays) (fun m => ef_rm_copyI m x1) ?_
  intro p e s m below meth c T0 hx hby hml hZ hown hnm hret hlk X0 e0
  have N0 := Fr.nil n0
  have K0 := Keep.refl h0 []
  refine g_iloadN X0 hx hby d8_0 (pc' := 1) rfl rfl ?_
  refine g_aloadN X0 hx hby d8_1 (pc' := 2) rfl rfl rfl ?_
  refine Go.alen X0 hx hZ e0 P0 (z := (0 : Int32)) rfl (hb hby d8_2) (pc' := 3) rfl ?_
  have hc3 : ¬ ((4 : Int) = (0 : Int)) := by decide
  refine g_icmpYes X0 hx hby d8_3 (pc' := 14) (feq (show ¬ ((4 : Int32) = (0 : Int32)) from fun q => hc3 (congrArg Int32.toInt q))).2 (by decide) (by decide) ?_
  refine g_iloadN X0 hx hby d8_14 (pc' := 15) rfl rfl ?_
  refine Go.newarr X0 hx hZ (n := 4) (cap := 4) (ty := .int) rfl (wi hw 10 rfl) e0 (by decide) rfl (by decide) (by decide) (by decide) (by decide) (hb hby d8_15) (pc' := 17) rfl ?_
  intro T1 h1 b1 X1 e1 E1 hb1 V1
  have g2 : n0 ≤ b1 := by rw [hb1]; exact Z0
  have s3 : h0.size ≤ b1 := by rw [hb1]; exact K0.1
  have V4 : ArF Z h1 b1 .int 4 (fun i => .int ((fun _ => (0 : Int32)) i)) := V1
  refine g_astoreN X1 hx hby d8_17 (pc' := 18) rfl rfl (L' := #[.val (.ref x1), .val (.int (4 : Int32)), .val (.ref b1)]) rfl ?_
  refine g_aloadN X1 hx hby d8_18 (pc' := 19) rfl rfl rfl ?_
  refine g_iconst X1 hx hby d8_19 (pc' := 20) rfl (z := (0 : Int32)) rfl ?_
  refine g_aloadN X1 hx hby d8_20 (pc' := 21) rfl rfl rfl ?_
  refine g_iconst X1 hx hby d8_21 (pc' := 22) rfl (z := (0 : Int32)) rfl ?_
  refine g_aloadN X1 hx hby d8_22 (pc' := 23) rfl rfl rfl ?_
  have f5 := P0.ext E1
  refine Go.alen X1 hx hZ e1 f5 (z := (0 : Int32)) rfl (hb hby d8_23) (pc' := 24) rfl ?_
  refine g_iloadN X1 hx hby d8_24 (pc' := 25) rfl rfl ?_
  refine Go.callS X1 hx hZ hown (wi hw 59 rfl) (wi hw 60 rfl) (wi hw 46 rfl) (wi hw 61 rfl) (by decide) e1 (argsL := [(.int (0 : Int32)), (.int (4 : Int32))]) (rest := [(.int (0 : Int32)), (.ref b1), (.int (0 : Int32)), (.ref x1)]) (W := 4) (rm_minI l Z a0 hw (0 : Int32) (4 : Int32) h1 n0 (Nat.le_trans Z0 E1.1) (by decide)) (hb hby d8_25) (by rw [hml]; rfl) rfl pd1 rfl rfl (by decide) (by decide) (by decide) (by decide) ?_
  intro v6 T6 L6 X6 hQ6
  obtain ⟨rfl, Nq6, hh6⟩ := hQ6
  have N6 := Fr.app N0 Nq6
  refine Go.push (pc' := 28) rfl ?_
  refine Go.arraycopy X6 hx hZ hown (wi hw 62 rfl) (wi hw 65 rfl) (wi hw 63 rfl) (wi hw 64 rfl) hh6 f5 V4 rfl (ks := 0) (kd := 0) (kn := 0) rfl rfl rfl (by decide) (by decide) N6 g2 (by rw [hml]; rfl) (hb hby d8_28) (pc' := 31) rfl (by decide) (W := 0) rfl (by decide) ?_
  intro T7 h7 L7 X7 e7 N7 K7 V7
  refine g_aloadN X7 hx hby d8_31 (pc' := 32) rfl rfl rfl ?_
  refine Go.retA X7 hx hlk hret rfl rfl (hb hby d8_32) (by decide) (by decide) ?_
  have VC : ArF Z h7 b1 .int 4 (fun i => .int ((fun _ => (0 : Int32)) i)) := (V7.cpI).congr (fun i hi => by simp [cpT])
  rw [e7]
  exact ⟨b1, rfl, N7, ((K0.ext E1).trans K7 (allS (Or.inr s3) all0)), g2, s3, VC⟩
theorem d10_0 : decode jdk_65_method_127_code 0 = .ok (.iload_n 1, 1) := by decide +kernel
theorem d10_1 : decode jdk_65_method_127_code 1 = .ok (.aload_n 0, 1) := by decide +kernel
theorem d10_2 : decode jdk_65_method_127_code 2 = .ok (.arraylength, 1) := by decide +kernel
theorem d10_3 : decode jdk_65_method_127_code 3 = .ok (.if_icmp .ne 11, 3) := by decide +kernel
theorem d10_14 : decode jdk_65_method_127_code 14 = .ok (.iload_n 1, 1) := by decide +kernel
theorem d10_15 : decode jdk_65_method_127_code 15 = .ok (.newarray .double, 2) := by decide +kernel
theorem d10_17 : decode jdk_65_method_127_code 17 = .ok (.astore_n 2, 1) := by decide +kernel
theorem d10_18 : decode jdk_65_method_127_code 18 = .ok (.aload_n 0, 1) := by decide +kernel
theorem d10_19 : decode jdk_65_method_127_code 19 = .ok (.iconst 0, 1) := by decide +kernel
theorem d10_20 : decode jdk_65_method_127_code 20 = .ok (.aload_n 2, 1) := by decide +kernel
theorem d10_21 : decode jdk_65_method_127_code 21 = .ok (.iconst 0, 1) := by decide +kernel
theorem d10_22 : decode jdk_65_method_127_code 22 = .ok (.aload_n 0, 1) := by decide +kernel
theorem d10_23 : decode jdk_65_method_127_code 23 = .ok (.arraylength, 1) := by decide +kernel
theorem d10_24 : decode jdk_65_method_127_code 24 = .ok (.iload_n 1, 1) := by decide +kernel
theorem d10_25 : decode jdk_65_method_127_code 25 = .ok (.invokestatic 304, 3) := by decide +kernel
theorem d10_28 : decode jdk_65_method_127_code 28 = .ok (.invokestatic 150, 3) := by decide +kernel
theorem d10_31 : decode jdk_65_method_127_code 31 = .ok (.aload_n 2, 1) := by decide +kernel
theorem d10_32 : decode jdk_65_method_127_code 32 = .ok (.areturn, 1) := by decide +kernel
theorem ef_rm_copyD (m : MethodId) (x0 : Addr) : entryFrame m #[(.ref x0), (.int (4 : Int32))] 3 = mkF m 0 #[.val (.ref x0), .val (.int (4 : Int32)), .unset] [] := by first | (simp [entryFrame, mkF, argsToLocals, Value.category]; done) | rfl
set_option maxRecDepth 65536 in
set_option maxHeartbeats 40000000 in
theorem rm_copyD (l : Launch) (Z : State) (a0 : Array Value) (hw : ∀ d ∈ tables_1, d.before a0 Z = true) (x1 : Addr) (g1 : Nat → UInt64) (h0 : Heap) (n0 : Nat) (Z0 : n0 ≤ h0.size) (P0 : ArF Z h0 x1 .double 0 (fun i => .double (g1 i))) :
    Con l Z (⟨"java/util/Arrays", "copyOf", "([DI)[D"⟩ : MethodName) jdk_65_method_127_code 3 (some (.array .double)) ({ frames := 1, cells := 1, slots := 4, locals := 40 } : Room) #[(.ref x1), (.int (4 : Int32))] h0 (fun v h L => ∃ (b1 : Addr), v = some (.ref b1) ∧ Fr n0 L ∧ Keep h0 h [] ∧ n0 ≤ b1 ∧ h0.size ≤ b1 ∧ ArF Z h b1 .double 4 (fun i => .double ((fun _ => (0 : UInt64)) i))) := by
  refine meet (y := (⟨"java/util/Arrays", "copyOf", "([DI)[D"⟩ : MethodName)) (Q := fun v h L => ∃ (b1 : Addr), v = some (.ref b1) ∧ Fr n0 L ∧ Keep h0 h [] ∧ n0 ≤ b1 ∧ h0.size ≤ b1 ∧ ArF Z h b1 .double 4 (fun i => .double ((fun _ => (0 : UInt64)) i))) (plainFor_of_name pn_java_util_Arrays) (fun m => ef_rm_copyD m x1) ?_
  intro p e s m below meth c T0 hx hby hml hZ hown hnm hret hlk X0 e0
  have N0 := Fr.nil n0
  have K0 := Keep.refl h0 []
  refine g_iloadN X0 hx hby d10_0 (pc' := 1) rfl rfl ?_
  refine g_aloadN X0 hx hby d10_1 (pc' := 2) rfl rfl rfl ?_
  refine Go.alen X0 hx hZ e0 P0 (z := (0 : Int32)) rfl (hb hby d10_2) (pc' := 3) rfl ?_
  have hc3 : ¬ ((4 : Int) = (0 : Int)) := by decide
  refine g_icmpYes X0 hx hby d10_3 (pc' := 14) (feq (show ¬ ((4 : Int32) = (0 : Int32)) from fun q => hc3 (congrArg Int32.toInt q))).2 (by decide) (by decide) ?_
  refine g_iloadN X0 hx hby d10_14 (pc' := 15) rfl rfl ?_
  refine Go.newarr X0 hx hZ (n := 4) (cap := 4) (ty := .double) rfl (wi hw 19 rfl) e0 (by decide) rfl (by decide) (by decide) (by decide) (by decide) (hb hby d10_15) (pc' := 17) rfl ?_
  intro T1 h1 b1 X1 e1 E1 hb1 V1
  have g2 : n0 ≤ b1 := by rw [hb1]; exact Z0
  have s3 : h0.size ≤ b1 := by rw [hb1]; exact K0.1
  have V4 : ArF Z h1 b1 .double 4 (fun i => .double ((fun _ => (0 : UInt64)) i)) := V1
  refine g_astoreN X1 hx hby d10_17 (pc' := 18) rfl rfl (L' := #[.val (.ref x1), .val (.int (4 : Int32)), .val (.ref b1)]) rfl ?_
  refine g_aloadN X1 hx hby d10_18 (pc' := 19) rfl rfl rfl ?_
  refine g_iconst X1 hx hby d10_19 (pc' := 20) rfl (z := (0 : Int32)) rfl ?_
  refine g_aloadN X1 hx hby d10_20 (pc' := 21) rfl rfl rfl ?_
  refine g_iconst X1 hx hby d10_21 (pc' := 22) rfl (z := (0 : Int32)) rfl ?_
  refine g_aloadN X1 hx hby d10_22 (pc' := 23) rfl rfl rfl ?_
  have f5 := P0.ext E1
  refine Go.alen X1 hx hZ e1 f5 (z := (0 : Int32)) rfl (hb hby d10_23) (pc' := 24) rfl ?_
  refine g_iloadN X1 hx hby d10_24 (pc' := 25) rfl rfl ?_
  refine Go.callS X1 hx hZ hown (wi hw 59 rfl) (wi hw 60 rfl) (wi hw 46 rfl) (wi hw 61 rfl) (by decide) e1 (argsL := [(.int (0 : Int32)), (.int (4 : Int32))]) (rest := [(.int (0 : Int32)), (.ref b1), (.int (0 : Int32)), (.ref x1)]) (W := 4) (rm_minI l Z a0 hw (0 : Int32) (4 : Int32) h1 n0 (Nat.le_trans Z0 E1.1) (by decide)) (hb hby d10_25) (by rw [hml]; rfl) rfl pd1 rfl rfl (by decide) (by decide) (by decide) (by decide) ?_
  intro v6 T6 L6 X6 hQ6
  obtain ⟨rfl, Nq6, hh6⟩ := hQ6
  have N6 := Fr.app N0 Nq6
  refine Go.push (pc' := 28) rfl ?_
  refine Go.arraycopy X6 hx hZ hown (wi hw 62 rfl) (wi hw 65 rfl) (wi hw 63 rfl) (wi hw 64 rfl) hh6 f5 V4 rfl (ks := 0) (kd := 0) (kn := 0) rfl rfl rfl (by decide) (by decide) N6 g2 (by rw [hml]; rfl) (hb hby d10_28) (pc' := 31) rfl (by decide) (W := 0) rfl (by decide) ?_
  intro T7 h7 L7 X7 e7 N7 K7 V7
  refine g_aloadN X7 hx hby d10_31 (pc' := 32) rfl rfl rfl ?_
  refine Go.retA X7 hx hlk hret rfl rfl (hb hby d10_32) (by decide) (by decide) ?_
  have VC : ArF Z h7 b1 .double 4 (fun i => .double ((fun _ => (0 : UInt64)) i)) := (V7.cpD).congr (fun i hi => by simp [cpT])
  rw [e7]
  exact ⟨b1, rfl, N7, ((K0.ext E1).trans K7 (allS (Or.inr s3) all0)), g2, s3, VC⟩
theorem d7_0 : decode prog_12_method_22_code 0 = .ok (.aload_n 0, 1) := by decide +kernel
theorem d7_1 : decode prog_12_method_22_code 1 = .ok (.aload_n 0, 1) := by decide +kernel
theorem d7_2 : decode prog_12_method_22_code 2 = .ok (.getfield 7, 3) := by decide +kernel
theorem d7_5 : decode prog_12_method_22_code 5 = .ok (.iload_n 1, 1) := by decide +kernel
theorem d7_6 : decode prog_12_method_22_code 6 = .ok (.invokestatic 87, 3) := by decide +kernel
theorem pd2 : parseMethodDescriptor "([II)[I" = some ⟨[(.array .int), .int], some (.array .int)⟩ := by decide +kernel
theorem d7_9 : decode prog_12_method_22_code 9 = .ok (.putfield 7, 3) := by decide +kernel
theorem d7_12 : decode prog_12_method_22_code 12 = .ok (.aload_n 0, 1) := by decide +kernel
theorem d7_13 : decode prog_12_method_22_code 13 = .ok (.aload_n 0, 1) := by decide +kernel
theorem d7_14 : decode prog_12_method_22_code 14 = .ok (.getfield 13, 3) := by decide +kernel
theorem d7_17 : decode prog_12_method_22_code 17 = .ok (.iload_n 1, 1) := by decide +kernel
theorem d7_18 : decode prog_12_method_22_code 18 = .ok (.invokestatic 87, 3) := by decide +kernel
theorem d7_21 : decode prog_12_method_22_code 21 = .ok (.putfield 13, 3) := by decide +kernel
theorem d7_24 : decode prog_12_method_22_code 24 = .ok (.aload_n 0, 1) := by decide +kernel
theorem d7_25 : decode prog_12_method_22_code 25 = .ok (.aload_n 0, 1) := by decide +kernel
theorem d7_26 : decode prog_12_method_22_code 26 = .ok (.getfield 16, 3) := by decide +kernel
theorem d7_29 : decode prog_12_method_22_code 29 = .ok (.iload_n 1, 1) := by decide +kernel
theorem d7_30 : decode prog_12_method_22_code 30 = .ok (.invokestatic 87, 3) := by decide +kernel
theorem d7_33 : decode prog_12_method_22_code 33 = .ok (.putfield 16, 3) := by decide +kernel
theorem d7_36 : decode prog_12_method_22_code 36 = .ok (.aload_n 0, 1) := by decide +kernel
theorem d7_37 : decode prog_12_method_22_code 37 = .ok (.aload_n 0, 1) := by decide +kernel
theorem d7_38 : decode prog_12_method_22_code 38 = .ok (.getfield 19, 3) := by decide +kernel
theorem d7_41 : decode prog_12_method_22_code 41 = .ok (.iload_n 1, 1) := by decide +kernel
theorem d7_42 : decode prog_12_method_22_code 42 = .ok (.invokestatic 87, 3) := by decide +kernel
theorem d7_45 : decode prog_12_method_22_code 45 = .ok (.putfield 19, 3) := by decide +kernel
theorem d7_48 : decode prog_12_method_22_code 48 = .ok (.aload_n 0, 1) := by decide +kernel
theorem d7_49 : decode prog_12_method_22_code 49 = .ok (.aload_n 0, 1) := by decide +kernel
theorem d7_50 : decode prog_12_method_22_code 50 = .ok (.getfield 22, 3) := by decide +kernel
theorem d7_53 : decode prog_12_method_22_code 53 = .ok (.iload_n 1, 1) := by decide +kernel
theorem d7_54 : decode prog_12_method_22_code 54 = .ok (.invokestatic 91, 3) := by decide +kernel
theorem pd3 : parseMethodDescriptor "([DI)[D" = some ⟨[(.array .double), .int], some (.array .double)⟩ := by decide +kernel
theorem d7_57 : decode prog_12_method_22_code 57 = .ok (.putfield 22, 3) := by decide +kernel
theorem d7_60 : decode prog_12_method_22_code 60 = .ok (.aload_n 0, 1) := by decide +kernel
theorem d7_61 : decode prog_12_method_22_code 61 = .ok (.getfield 33, 3) := by decide +kernel
theorem d7_64 : decode prog_12_method_22_code 64 = .ok (.ifCond .eq 15, 3) := by decide +kernel
theorem d7_79 : decode prog_12_method_22_code 79 = .ok (.return_, 1) := by decide +kernel
theorem ef_rm_resize0 (m : MethodId) (x0 : Addr) : entryFrame m #[(.ref x0), (.int (4 : Int32))] 2 = mkF m 0 #[.val (.ref x0), .val (.int (4 : Int32))] [] := by first | (simp [entryFrame, mkF, argsToLocals, Value.category]; done) | rfl
set_option maxRecDepth 65536 in
set_option maxHeartbeats 40000000 in
theorem rm_resize0 (l : Launch) (Z : State) (a0 : Array Value) (hw : ∀ d ∈ tables_1, d.before a0 Z = true) (a1 : Addr) (x1 : Addr) (x2 : Addr) (x3 : Addr) (x4 : Addr) (x5 : Addr) (x6 : Addr) (x7 : Addr) (g1 : Nat → Int32) (g2 : Nat → Int32) (g3 : Nat → Int32) (g4 : Nat → Int32) (g5 : Nat → UInt64) (g6 : Nat → Int32) (t1 : Int32) (t2 : Int32) (u1 : Int64) (h0 : Heap) (n0 : Nat) (Z0 : n0 ≤ h0.size) (P0 : Exa Z h0 a1 "com/example/edgewise/edgewise/EdgeSlots") (P1 : Fld Z h0 a1 "com/example/edgewise/edgewise/EdgeSlots" "keyed" "Z" (.int (0 : Int32))) (P2 : Fld Z h0 a1 "com/example/edgewise/edgewise/EdgeSlots" "keptNumbers" "[J" (.ref x7)) (P3 : Fld Z h0 a1 "com/example/edgewise/edgewise/EdgeSlots" "sources" "[I" (.ref x1)) (P4 : Fld Z h0 a1 "com/example/edgewise/edgewise/EdgeSlots" "targets" "[I" (.ref x2)) (P5 : Fld Z h0 a1 "com/example/edgewise/edgewise/EdgeSlots" "sourcePositions" "[I" (.ref x3)) (P6 : Fld Z h0 a1 "com/example/edgewise/edgewise/EdgeSlots" "targetPositions" "[I" (.ref x4)) (P7 : Fld Z h0 a1 "com/example/edgewise/edgewise/EdgeSlots" "weights" "[D" (.ref x5)) (P8 : Fld Z h0 a1 "com/example/edgewise/edgewise/EdgeSlots" "keys" "[I" (.ref x6)) (P9 : ArF Z h0 x1 .int 0 (fun i => .int (g1 i))) (P10 : ArF Z h0 x2 .int 0 (fun i => .int (g2 i))) (P11 : ArF Z h0 x3 .int 0 (fun i => .int (g3 i))) (P12 : ArF Z h0 x4 .int 0 (fun i => .int (g4 i))) (P13 : ArF Z h0 x5 .double 0 (fun i => .double (g5 i))) (P14 : ArF Z h0 x6 .int 0 (fun i => .int (g6 i))) (P15 : Fld Z h0 a1 "com/example/edgewise/edgewise/EdgeSlots" "bound" "I" (.int t1)) (P16 : Fld Z h0 a1 "com/example/edgewise/edgewise/EdgeSlots" "count" "I" (.int t2)) (P17 : Fld Z h0 a1 "com/example/edgewise/edgewise/EdgeSlots" "nextNumber" "J" (.long u1)) (ne_x1_a1 : x1 ≠ a1) (ne_x2_a1 : x2 ≠ a1) (ne_x3_a1 : x3 ≠ a1) (ne_x4_a1 : x4 ≠ a1) (ne_x5_a1 : x5 ≠ a1) (ne_x6_a1 : x6 ≠ a1) (ge_a1 : n0 ≤ a1) :
    Con l Z (⟨"com/example/edgewise/edgewise/EdgeSlots", "resize", "(I)V"⟩ : MethodName) prog_12_method_22_code 2 none ({ frames := 2, cells := 5, slots := 20, locals := 55 } : Room) #[(.ref a1), (.int (4 : Int32))] h0 (fun v h L => ∃ (b1 : Addr) (b2 : Addr) (b3 : Addr) (b4 : Addr) (b5 : Addr), v = none ∧ Fr n0 L ∧ Keep h0 h [a1] ∧ n0 ≤ b1 ∧ h0.size ≤ b1 ∧ n0 ≤ b2 ∧ h0.size ≤ b2 ∧ n0 ≤ b3 ∧ h0.size ≤ b3 ∧ n0 ≤ b4 ∧ h0.size ≤ b4 ∧ n0 ≤ b5 ∧ h0.size ≤ b5 ∧ b1 ≠ b2 ∧ b1 ≠ b3 ∧ b1 ≠ b4 ∧ b1 ≠ b5 ∧ b2 ≠ b3 ∧ b2 ≠ b4 ∧ b2 ≠ b5 ∧ b3 ≠ b4 ∧ b3 ≠ b5 ∧ b4 ≠ b5 ∧ Fld Z h a1 "com/example/edgewise/edgewise/EdgeSlots" "keyed" "Z" (.int (0 : Int32)) ∧ Fld Z h a1 "com/example/edgewise/edgewise/EdgeSlots" "keptNumbers" "[J" (.ref x7) ∧ Fld Z h a1 "com/example/edgewise/edgewise/EdgeSlots" "sources" "[I" (.ref b1) ∧ Fld Z h a1 "com/example/edgewise/edgewise/EdgeSlots" "targets" "[I" (.ref b2) ∧ Fld Z h a1 "com/example/edgewise/edgewise/EdgeSlots" "sourcePositions" "[I" (.ref b3) ∧ Fld Z h a1 "com/example/edgewise/edgewise/EdgeSlots" "targetPositions" "[I" (.ref b4) ∧ Fld Z h a1 "com/example/edgewise/edgewise/EdgeSlots" "weights" "[D" (.ref b5) ∧ Fld Z h a1 "com/example/edgewise/edgewise/EdgeSlots" "keys" "[I" (.ref x6) ∧ Fld Z h a1 "com/example/edgewise/edgewise/EdgeSlots" "bound" "I" (.int t1) ∧ Fld Z h a1 "com/example/edgewise/edgewise/EdgeSlots" "count" "I" (.int t2) ∧ Fld Z h a1 "com/example/edgewise/edgewise/EdgeSlots" "nextNumber" "J" (.long u1) ∧ ArF Z h b1 .int 4 (fun i => .int ((fun _ => (0 : Int32)) i)) ∧ ArF Z h b2 .int 4 (fun i => .int ((fun _ => (0 : Int32)) i)) ∧ ArF Z h b3 .int 4 (fun i => .int ((fun _ => (0 : Int32)) i)) ∧ ArF Z h b4 .int 4 (fun i => .int ((fun _ => (0 : Int32)) i)) ∧ ArF Z h b5 .double 4 (fun i => .double ((fun _ => (0 : UInt64)) i))) := by
  refine meet (y := (⟨"com/example/edgewise/edgewise/EdgeSlots", "resize", "(I)V"⟩ : MethodName)) (Q := fun v h L => ∃ (b1 : Addr) (b2 : Addr) (b3 : Addr) (b4 : Addr) (b5 : Addr), v = none ∧ Fr n0 L ∧ Keep h0 h [a1] ∧ n0 ≤ b1 ∧ h0.size ≤ b1 ∧ n0 ≤ b2 ∧ h0.size ≤ b2 ∧ n0 ≤ b3 ∧ h0.size ≤ b3 ∧ n0 ≤ b4 ∧ h0.size ≤ b4 ∧ n0 ≤ b5 ∧ h0.size ≤ b5 ∧ b1 ≠ b2 ∧ b1 ≠ b3 ∧ b1 ≠ b4 ∧ b1 ≠ b5 ∧ b2 ≠ b3 ∧ b2 ≠ b4 ∧ b2 ≠ b5 ∧ b3 ≠ b4 ∧ b3 ≠ b5 ∧ b4 ≠ b5 ∧ Fld Z h a1 "com/example/edgewise/edgewise/EdgeSlots" "keyed" "Z" (.int (0 : Int32)) ∧ Fld Z h a1 "com/example/edgewise/edgewise/EdgeSlots" "keptNumbers" "[J" (.ref x7) ∧ Fld Z h a1 "com/example/edgewise/edgewise/EdgeSlots" "sources" "[I" (.ref b1) ∧ Fld Z h a1 "com/example/edgewise/edgewise/EdgeSlots" "targets" "[I" (.ref b2) ∧ Fld Z h a1 "com/example/edgewise/edgewise/EdgeSlots" "sourcePositions" "[I" (.ref b3) ∧ Fld Z h a1 "com/example/edgewise/edgewise/EdgeSlots" "targetPositions" "[I" (.ref b4) ∧ Fld Z h a1 "com/example/edgewise/edgewise/EdgeSlots" "weights" "[D" (.ref b5) ∧ Fld Z h a1 "com/example/edgewise/edgewise/EdgeSlots" "keys" "[I" (.ref x6) ∧ Fld Z h a1 "com/example/edgewise/edgewise/EdgeSlots" "bound" "I" (.int t1) ∧ Fld Z h a1 "com/example/edgewise/edgewise/EdgeSlots" "count" "I" (.int t2) ∧ Fld Z h a1 "com/example/edgewise/edgewise/EdgeSlots" "nextNumber" "J" (.long u1) ∧ ArF Z h b1 .int 4 (fun i => .int ((fun _ => (0 : Int32)) i)) ∧ ArF Z h b2 .int 4 (fun i => .int ((fun _ => (0 : Int32)) i)) ∧ ArF Z h b3 .int 4 (fun i => .int ((fun _ => (0 : Int32)) i)) ∧ ArF Z h b4 .int 4 (fun i => .int ((fun _ => (0 : Int32)) i)) ∧ ArF Z h b5 .double 4 (fun i => .double ((fun _ => (0 : UInt64)) i))) (plainFor_of_name pn_com_example_edgewise_edgewise_EdgeSlots) (fun m => ef_rm_resize0 m a1) ?_
  intro p e s m below meth c T0 hx hby hml hZ hown hnm hret hlk X0 e0
  have N0 := Fr.nil n0
  have K0 := Keep.refl h0 [a1]
  refine g_aloadN X0 hx hby d7_0 (pc' := 1) rfl rfl rfl ?_
  refine g_aloadN X0 hx hby d7_1 (pc' := 2) rfl rfl rfl ?_
  refine g_getf X0 hx hby hZ hown (host := "") (Or.inl (wi hw 11 rfl)) Via.refl e0 P3 d7_2 (pc' := 5) rfl ?_
  intro T1 X1 e1
  refine g_iloadN X1 hx hby d7_5 (pc' := 6) rfl rfl ?_
  refine Go.callS X1 hx hZ hown (wi hw 55 rfl) (wi hw 56 rfl) (wi hw 57 rfl) (wi hw 58 rfl) (by decide) e1 (argsL := [(.ref x1), (.int (4 : Int32))]) (rest := [(.ref a1)]) (W := 1) (rm_copyI l Z a0 hw x1 g1 h0 n0 Z0 P9) (hb hby d7_6) (by rw [hml]; rfl) rfl pd2 rfl rfl (by decide) (by decide) (by decide) (by decide) ?_
  intro v2 T2 L2 X2 hQ2
  obtain ⟨h2, e2⟩ : ∃ z, T2.heap = z := ⟨_, rfl⟩
  rw [e2] at hQ2
  obtain ⟨b1_2, rfl, Nq2, Kq2, gqb1_2, sqb1_2, Fq0_2⟩ := hQ2
  have N2 := Fr.app N0 Nq2
  have s3 : h0.size ≤ b1_2 := Nat.le_trans K0.1 sqb1_2
  refine Go.push (pc' := 9) rfl ?_
  have f4 := P3.keep Kq2 nin0
  have f5 := P0.keep Kq2
  refine g_putf X2 hx hby hZ hown (host := "") (Or.inl (wi hw 11 rfl)) Via.refl e2 f4 f5 (Or.inl (wi hw 12 rfl)) (wi hw 2 rfl) (ty := (.array .int)) (by decide) rfl rfl d7_9 (pc' := 12) rfl ?_
  intro T6 h6 X6 e6 W6 F6
  refine g_aloadN X6 hx hby d7_12 (pc' := 13) rfl rfl rfl ?_
  refine g_aloadN X6 hx hby d7_13 (pc' := 14) rfl rfl rfl ?_
  have f7 := ((P4.keep Kq2 nin0).other W6 (Or.inr (slot_ne (Or.inl (wi hw 14 rfl)) (Or.inl (wi hw 12 rfl)) (by decide) (t := (.array .int)) (t' := (.array .int)) (by decide) (by decide))))
  refine g_getf X6 hx hby hZ hown (host := "") (Or.inl (wi hw 13 rfl)) Via.refl e6 f7 d7_14 (pc' := 17) rfl ?_
  intro T8 X8 e8
  refine g_iloadN X8 hx hby d7_17 (pc' := 18) rfl rfl ?_
  have f10 := ((P10.keep Kq2 nin0).other W6 ne_x2_a1)
  refine Go.callS X8 hx hZ hown (wi hw 55 rfl) (wi hw 56 rfl) (wi hw 57 rfl) (wi hw 58 rfl) (by decide) e8 (argsL := [(.ref x2), (.int (4 : Int32))]) (rest := [(.ref a1)]) (W := 1) (rm_copyI l Z a0 hw x2 g2 h6 n0 (Nat.le_trans (Nat.le_trans Z0 Kq2.1) (Nat.le_of_eq (Wr.size W6).symm)) f10) (hb hby d7_18) (by rw [hml]; rfl) rfl pd2 rfl rfl (by decide) (by decide) (by decide) (by decide) ?_
  intro v9 T9 L9 X9 hQ9
  obtain ⟨h9, e9⟩ : ∃ z, T9.heap = z := ⟨_, rfl⟩
  rw [e9] at hQ9
  obtain ⟨b1_9, rfl, Nq9, Kq9, gqb1_9, sqb1_9, Fq0_9⟩ := hQ9
  have N9 := Fr.app (Fr.snoc X6 N2 ge_a1) Nq9
  have s11 : h0.size ≤ b1_9 := Nat.le_trans ((K0.trans Kq2 all0).wr W6 (Or.inl (List.mem_of_getElem? (i := 0) rfl))).1 sqb1_9
  refine Go.push (pc' := 21) rfl ?_
  have f12 := f7.keep Kq9 nin0
  have f13 := ((f5.wr W6).keep Kq9)
  refine g_putf X9 hx hby hZ hown (host := "") (Or.inl (wi hw 13 rfl)) Via.refl e9 f12 f13 (Or.inl (wi hw 14 rfl)) (wi hw 2 rfl) (ty := (.array .int)) (by decide) rfl rfl d7_21 (pc' := 24) rfl ?_
  intro T14 h14 X14 e14 W14 F14
  refine g_aloadN X14 hx hby d7_24 (pc' := 25) rfl rfl rfl ?_
  refine g_aloadN X14 hx hby d7_25 (pc' := 26) rfl rfl rfl ?_
  have f15 := ((((P5.keep Kq2 nin0).other W6 (Or.inr (slot_ne (Or.inl (wi hw 16 rfl)) (Or.inl (wi hw 12 rfl)) (by decide) (t := (.array .int)) (t' := (.array .int)) (by decide) (by decide)))).keep Kq9 nin0).other W14 (Or.inr (slot_ne (Or.inl (wi hw 16 rfl)) (Or.inl (wi hw 14 rfl)) (by decide) (t := (.array .int)) (t' := (.array .int)) (by decide) (by decide))))
  refine g_getf X14 hx hby hZ hown (host := "") (Or.inl (wi hw 15 rfl)) Via.refl e14 f15 d7_26 (pc' := 29) rfl ?_
  intro T16 X16 e16
  refine g_iloadN X16 hx hby d7_29 (pc' := 30) rfl rfl ?_
  have f18 := ((((P11.keep Kq2 nin0).other W6 ne_x3_a1).keep Kq9 nin0).other W14 ne_x3_a1)
  refine Go.callS X16 hx hZ hown (wi hw 55 rfl) (wi hw 56 rfl) (wi hw 57 rfl) (wi hw 58 rfl) (by decide) e16 (argsL := [(.ref x3), (.int (4 : Int32))]) (rest := [(.ref a1)]) (W := 1) (rm_copyI l Z a0 hw x3 g3 h14 n0 (Nat.le_trans (Nat.le_trans (Nat.le_trans (Nat.le_trans Z0 Kq2.1) (Nat.le_of_eq (Wr.size W6).symm)) Kq9.1) (Nat.le_of_eq (Wr.size W14).symm)) f18) (hb hby d7_30) (by rw [hml]; rfl) rfl pd2 rfl rfl (by decide) (by decide) (by decide) (by decide) ?_
  intro v17 T17 L17 X17 hQ17
  obtain ⟨h17, e17⟩ : ∃ z, T17.heap = z := ⟨_, rfl⟩
  rw [e17] at hQ17
  obtain ⟨b1_17, rfl, Nq17, Kq17, gqb1_17, sqb1_17, Fq0_17⟩ := hQ17
  have N17 := Fr.app (Fr.snoc X14 N9 ge_a1) Nq17
  have z19 : n0 ≤ h17.size := (Nat.le_trans (Nat.le_trans (Nat.le_trans (Nat.le_trans (Nat.le_trans Z0 Kq2.1) (Nat.le_of_eq (Wr.size W6).symm)) Kq9.1) (Nat.le_of_eq (Wr.size W14).symm)) Kq17.1)
  have s20 : h0.size ≤ b1_17 := Nat.le_trans ((((K0.trans Kq2 all0).wr W6 (Or.inl (List.mem_of_getElem? (i := 0) rfl))).trans Kq9 all0).wr W14 (Or.inl (List.mem_of_getElem? (i := 0) rfl))).1 sqb1_17
  refine Go.push (pc' := 33) rfl ?_
  have f21 := f15.keep Kq17 nin0
  have f22 := ((f13.wr W14).keep Kq17)
  refine g_putf X17 hx hby hZ hown (host := "") (Or.inl (wi hw 15 rfl)) Via.refl e17 f21 f22 (Or.inl (wi hw 16 rfl)) (wi hw 2 rfl) (ty := (.array .int)) (by decide) rfl rfl d7_33 (pc' := 36) rfl ?_
  intro T23 h23 X23 e23 W23 F23
  have K24 : Keep h0 h23 [a1] := ((((((K0.trans Kq2 all0).wr W6 (Or.inl (List.mem_of_getElem? (i := 0) rfl))).trans Kq9 all0).wr W14 (Or.inl (List.mem_of_getElem? (i := 0) rfl))).trans Kq17 all0).wr W23 (Or.inl (List.mem_of_getElem? (i := 0) rfl)))
  refine g_aloadN X23 hx hby d7_36 (pc' := 37) rfl rfl rfl ?_
  refine g_aloadN X23 hx hby d7_37 (pc' := 38) rfl rfl rfl ?_
  have f25 := ((((((P6.keep Kq2 nin0).other W6 (Or.inr (slot_ne (Or.inl (wi hw 18 rfl)) (Or.inl (wi hw 12 rfl)) (by decide) (t := (.array .int)) (t' := (.array .int)) (by decide) (by decide)))).keep Kq9 nin0).other W14 (Or.inr (slot_ne (Or.inl (wi hw 18 rfl)) (Or.inl (wi hw 14 rfl)) (by decide) (t := (.array .int)) (t' := (.array .int)) (by decide) (by decide)))).keep Kq17 nin0).other W23 (Or.inr (slot_ne (Or.inl (wi hw 18 rfl)) (Or.inl (wi hw 16 rfl)) (by decide) (t := (.array .int)) (t' := (.array .int)) (by decide) (by decide))))
  refine g_getf X23 hx hby hZ hown (host := "") (Or.inl (wi hw 17 rfl)) Via.refl e23 f25 d7_38 (pc' := 41) rfl ?_
  intro T26 X26 e26
  refine g_iloadN X26 hx hby d7_41 (pc' := 42) rfl rfl ?_
  have f28 := ((((((P12.keep Kq2 nin0).other W6 ne_x4_a1).keep Kq9 nin0).other W14 ne_x4_a1).keep Kq17 nin0).other W23 ne_x4_a1)
  refine Go.callS X26 hx hZ hown (wi hw 55 rfl) (wi hw 56 rfl) (wi hw 57 rfl) (wi hw 58 rfl) (by decide) e26 (argsL := [(.ref x4), (.int (4 : Int32))]) (rest := [(.ref a1)]) (W := 1) (rm_copyI l Z a0 hw x4 g4 h23 n0 (Nat.le_trans z19 (Nat.le_of_eq (Wr.size W23).symm)) f28) (hb hby d7_42) (by rw [hml]; rfl) rfl pd2 rfl rfl (by decide) (by decide) (by decide) (by decide) ?_
  intro v27 T27 L27 X27 hQ27
  obtain ⟨h27, e27⟩ : ∃ z, T27.heap = z := ⟨_, rfl⟩
  rw [e27] at hQ27
  obtain ⟨b1_27, rfl, Nq27, Kq27, gqb1_27, sqb1_27, Fq0_27⟩ := hQ27
  have N27 := Fr.app (Fr.snoc X23 N17 ge_a1) Nq27
  have s29 : h0.size ≤ b1_27 := Nat.le_trans K24.1 sqb1_27
  refine Go.push (pc' := 45) rfl ?_
  have f30 := f25.keep Kq27 nin0
  have f31 := ((f22.wr W23).keep Kq27)
  refine g_putf X27 hx hby hZ hown (host := "") (Or.inl (wi hw 17 rfl)) Via.refl e27 f30 f31 (Or.inl (wi hw 18 rfl)) (wi hw 2 rfl) (ty := (.array .int)) (by decide) rfl rfl d7_45 (pc' := 48) rfl ?_
  intro T32 h32 X32 e32 W32 F32
  refine g_aloadN X32 hx hby d7_48 (pc' := 49) rfl rfl rfl ?_
  refine g_aloadN X32 hx hby d7_49 (pc' := 50) rfl rfl rfl ?_
  have f33 := ((((((((P7.keep Kq2 nin0).other W6 (Or.inr (slot_ne (Or.inl (wi hw 21 rfl)) (Or.inl (wi hw 12 rfl)) (by decide) (t := (.array .double)) (t' := (.array .int)) (by decide) (by decide)))).keep Kq9 nin0).other W14 (Or.inr (slot_ne (Or.inl (wi hw 21 rfl)) (Or.inl (wi hw 14 rfl)) (by decide) (t := (.array .double)) (t' := (.array .int)) (by decide) (by decide)))).keep Kq17 nin0).other W23 (Or.inr (slot_ne (Or.inl (wi hw 21 rfl)) (Or.inl (wi hw 16 rfl)) (by decide) (t := (.array .double)) (t' := (.array .int)) (by decide) (by decide)))).keep Kq27 nin0).other W32 (Or.inr (slot_ne (Or.inl (wi hw 21 rfl)) (Or.inl (wi hw 18 rfl)) (by decide) (t := (.array .double)) (t' := (.array .int)) (by decide) (by decide))))
  refine g_getf X32 hx hby hZ hown (host := "") (Or.inl (wi hw 20 rfl)) Via.refl e32 f33 d7_50 (pc' := 53) rfl ?_
  intro T34 X34 e34
  refine g_iloadN X34 hx hby d7_53 (pc' := 54) rfl rfl ?_
  have f36 := ((((((((P13.keep Kq2 nin0).other W6 ne_x5_a1).keep Kq9 nin0).other W14 ne_x5_a1).keep Kq17 nin0).other W23 ne_x5_a1).keep Kq27 nin0).other W32 ne_x5_a1)
  refine Go.callS X34 hx hZ hown (wi hw 66 rfl) (wi hw 67 rfl) (wi hw 57 rfl) (wi hw 68 rfl) (by decide) e34 (argsL := [(.ref x5), (.int (4 : Int32))]) (rest := [(.ref a1)]) (W := 1) (rm_copyD l Z a0 hw x5 g5 h32 n0 (Nat.le_trans (Nat.le_trans (Nat.le_trans z19 (Nat.le_of_eq (Wr.size W23).symm)) Kq27.1) (Nat.le_of_eq (Wr.size W32).symm)) f36) (hb hby d7_54) (by rw [hml]; rfl) rfl pd3 rfl rfl (by decide) (by decide) (by decide) (by decide) ?_
  intro v35 T35 L35 X35 hQ35
  obtain ⟨h35, e35⟩ : ∃ z, T35.heap = z := ⟨_, rfl⟩
  rw [e35] at hQ35
  obtain ⟨b1_35, rfl, Nq35, Kq35, gqb1_35, sqb1_35, Fq0_35⟩ := hQ35
  have N35 := Fr.app (Fr.snoc X32 N27 ge_a1) Nq35
  have s37 : h0.size ≤ b1_35 := Nat.le_trans ((K24.trans Kq27 all0).wr W32 (Or.inl (List.mem_of_getElem? (i := 0) rfl))).1 sqb1_35
  refine Go.push (pc' := 57) rfl ?_
  have f38 := f33.keep Kq35 nin0
  have f39 := ((f31.wr W32).keep Kq35)
  refine g_putf X35 hx hby hZ hown (host := "") (Or.inl (wi hw 20 rfl)) Via.refl e35 f38 f39 (Or.inl (wi hw 21 rfl)) (wi hw 2 rfl) (ty := (.array .double)) (by decide) rfl rfl d7_57 (pc' := 60) rfl ?_
  intro T40 h40 X40 e40 W40 F40
  have z41 : n0 ≤ h40.size := (Nat.le_trans (Nat.le_trans (Nat.le_trans (Nat.le_trans (Nat.le_trans z19 (Nat.le_of_eq (Wr.size W23).symm)) Kq27.1) (Nat.le_of_eq (Wr.size W32).symm)) Kq35.1) (Nat.le_of_eq (Wr.size W40).symm))
  refine g_aloadN X40 hx hby d7_60 (pc' := 61) rfl rfl rfl ?_
  have f42 := ((((((((((P1.keep Kq2 nin0).other W6 (Or.inr (slot_ne (Or.inr (wi hw 28 rfl)) (Or.inl (wi hw 12 rfl)) (by decide) (t := .boolean) (t' := (.array .int)) (by decide) (by decide)))).keep Kq9 nin0).other W14 (Or.inr (slot_ne (Or.inr (wi hw 28 rfl)) (Or.inl (wi hw 14 rfl)) (by decide) (t := .boolean) (t' := (.array .int)) (by decide) (by decide)))).keep Kq17 nin0).other W23 (Or.inr (slot_ne (Or.inr (wi hw 28 rfl)) (Or.inl (wi hw 16 rfl)) (by decide) (t := .boolean) (t' := (.array .int)) (by decide) (by decide)))).keep Kq27 nin0).other W32 (Or.inr (slot_ne (Or.inr (wi hw 28 rfl)) (Or.inl (wi hw 18 rfl)) (by decide) (t := .boolean) (t' := (.array .int)) (by decide) (by decide)))).keep Kq35 nin0).other W40 (Or.inr (slot_ne (Or.inr (wi hw 28 rfl)) (Or.inl (wi hw 21 rfl)) (by decide) (t := .boolean) (t' := (.array .double)) (by decide) (by decide))))
  refine g_getf X40 hx hby hZ hown (host := "") (Or.inl (wi hw 27 rfl)) Via.refl e40 f42 d7_61 (pc' := 64) rfl ?_
  intro T43 X43 e43
  have hc64 : (0 : Int) = (0 : Int) := by decide
  refine g_ifYes X43 hx hby d7_64 (pc' := 79) (teq (show (0 : Int32) = (0 : Int32) from Int32.toInt_inj.mp hc64)).1 (by decide) (by decide) ?_
  refine Go.retV X43 hx hlk hret (hb hby d7_79) rfl (by decide) (by decide) ?_
  have f44 := ((((((((F6.keep Kq9 nin0).other W14 (Or.inr (slot_ne (Or.inl (wi hw 12 rfl)) (Or.inl (wi hw 14 rfl)) (by decide) (t := (.array .int)) (t' := (.array .int)) (by decide) (by decide)))).keep Kq17 nin0).other W23 (Or.inr (slot_ne (Or.inl (wi hw 12 rfl)) (Or.inl (wi hw 16 rfl)) (by decide) (t := (.array .int)) (t' := (.array .int)) (by decide) (by decide)))).keep Kq27 nin0).other W32 (Or.inr (slot_ne (Or.inl (wi hw 12 rfl)) (Or.inl (wi hw 18 rfl)) (by decide) (t := (.array .int)) (t' := (.array .int)) (by decide) (by decide)))).keep Kq35 nin0).other W40 (Or.inr (slot_ne (Or.inl (wi hw 12 rfl)) (Or.inl (wi hw 21 rfl)) (by decide) (t := (.array .int)) (t' := (.array .double)) (by decide) (by decide))))
  have f45 := ((((((F14.keep Kq17 nin0).other W23 (Or.inr (slot_ne (Or.inl (wi hw 14 rfl)) (Or.inl (wi hw 16 rfl)) (by decide) (t := (.array .int)) (t' := (.array .int)) (by decide) (by decide)))).keep Kq27 nin0).other W32 (Or.inr (slot_ne (Or.inl (wi hw 14 rfl)) (Or.inl (wi hw 18 rfl)) (by decide) (t := (.array .int)) (t' := (.array .int)) (by decide) (by decide)))).keep Kq35 nin0).other W40 (Or.inr (slot_ne (Or.inl (wi hw 14 rfl)) (Or.inl (wi hw 21 rfl)) (by decide) (t := (.array .int)) (t' := (.array .double)) (by decide) (by decide))))
  have f46 := ((((F23.keep Kq27 nin0).other W32 (Or.inr (slot_ne (Or.inl (wi hw 16 rfl)) (Or.inl (wi hw 18 rfl)) (by decide) (t := (.array .int)) (t' := (.array .int)) (by decide) (by decide)))).keep Kq35 nin0).other W40 (Or.inr (slot_ne (Or.inl (wi hw 16 rfl)) (Or.inl (wi hw 21 rfl)) (by decide) (t := (.array .int)) (t' := (.array .double)) (by decide) (by decide))))
  have f47 := ((F32.keep Kq35 nin0).other W40 (Or.inr (slot_ne (Or.inl (wi hw 18 rfl)) (Or.inl (wi hw 21 rfl)) (by decide) (t := (.array .int)) (t' := (.array .double)) (by decide) (by decide))))
  rw [e43]
  have ne48 : a1 ≠ b1_2 := Nat.ne_of_lt (Nat.lt_of_lt_of_le P17.lt sqb1_2)
  have ne49 : b1_2 ≠ b1_9 := Nat.ne_of_lt (Nat.lt_of_lt_of_le (Fq0_2.other W6 (Ne.symm ne48)).lt sqb1_9)
  have ne50 : b1_2 ≠ b1_17 := Nat.ne_of_lt (Nat.lt_of_lt_of_le (((Fq0_2.other W6 (Ne.symm ne48)).keep Kq9 nin0).other W14 (Ne.symm ne48)).lt sqb1_17)
  have ne51 : b1_2 ≠ b1_27 := Nat.ne_of_lt (Nat.lt_of_lt_of_le (((((Fq0_2.other W6 (Ne.symm ne48)).keep Kq9 nin0).other W14 (Ne.symm ne48)).keep Kq17 nin0).other W23 (Ne.symm ne48)).lt sqb1_27)
  have ne52 : b1_2 ≠ b1_35 := Nat.ne_of_lt (Nat.lt_of_lt_of_le (((((((Fq0_2.other W6 (Ne.symm ne48)).keep Kq9 nin0).other W14 (Ne.symm ne48)).keep Kq17 nin0).other W23 (Ne.symm ne48)).keep Kq27 nin0).other W32 (Ne.symm ne48)).lt sqb1_35)
  have ne53 : a1 ≠ b1_9 := Nat.ne_of_lt (Nat.lt_of_lt_of_le f7.lt sqb1_9)
  have ne54 : b1_9 ≠ b1_17 := Nat.ne_of_lt (Nat.lt_of_lt_of_le (Fq0_9.other W14 (Ne.symm ne53)).lt sqb1_17)
  have ne55 : b1_9 ≠ b1_27 := Nat.ne_of_lt (Nat.lt_of_lt_of_le (((Fq0_9.other W14 (Ne.symm ne53)).keep Kq17 nin0).other W23 (Ne.symm ne53)).lt sqb1_27)
  have ne56 : b1_9 ≠ b1_35 := Nat.ne_of_lt (Nat.lt_of_lt_of_le (((((Fq0_9.other W14 (Ne.symm ne53)).keep Kq17 nin0).other W23 (Ne.symm ne53)).keep Kq27 nin0).other W32 (Ne.symm ne53)).lt sqb1_35)
  have ne57 : a1 ≠ b1_17 := Nat.ne_of_lt (Nat.lt_of_lt_of_le f15.lt sqb1_17)
  have ne58 : b1_17 ≠ b1_27 := Nat.ne_of_lt (Nat.lt_of_lt_of_le (Fq0_17.other W23 (Ne.symm ne57)).lt sqb1_27)
  have ne59 : b1_17 ≠ b1_35 := Nat.ne_of_lt (Nat.lt_of_lt_of_le (((Fq0_17.other W23 (Ne.symm ne57)).keep Kq27 nin0).other W32 (Ne.symm ne57)).lt sqb1_35)
  have ne60 : a1 ≠ b1_27 := Nat.ne_of_lt (Nat.lt_of_lt_of_le f25.lt sqb1_27)
  have ne61 : b1_27 ≠ b1_35 := Nat.ne_of_lt (Nat.lt_of_lt_of_le (Fq0_27.other W32 (Ne.symm ne60)).lt sqb1_35)
  have f62 := ((((((((((P2.keep Kq2 nin0).other W6 (Or.inr (slot_ne (Or.inl (wi hw 26 rfl)) (Or.inl (wi hw 12 rfl)) (by decide) (t := (.array .long)) (t' := (.array .int)) (by decide) (by decide)))).keep Kq9 nin0).other W14 (Or.inr (slot_ne (Or.inl (wi hw 26 rfl)) (Or.inl (wi hw 14 rfl)) (by decide) (t := (.array .long)) (t' := (.array .int)) (by decide) (by decide)))).keep Kq17 nin0).other W23 (Or.inr (slot_ne (Or.inl (wi hw 26 rfl)) (Or.inl (wi hw 16 rfl)) (by decide) (t := (.array .long)) (t' := (.array .int)) (by decide) (by decide)))).keep Kq27 nin0).other W32 (Or.inr (slot_ne (Or.inl (wi hw 26 rfl)) (Or.inl (wi hw 18 rfl)) (by decide) (t := (.array .long)) (t' := (.array .int)) (by decide) (by decide)))).keep Kq35 nin0).other W40 (Or.inr (slot_ne (Or.inl (wi hw 26 rfl)) (Or.inl (wi hw 21 rfl)) (by decide) (t := (.array .long)) (t' := (.array .double)) (by decide) (by decide))))
  have f63 := ((((((((((P8.keep Kq2 nin0).other W6 (Or.inr (slot_ne (Or.inl (wi hw 23 rfl)) (Or.inl (wi hw 12 rfl)) (by decide) (t := (.array .int)) (t' := (.array .int)) (by decide) (by decide)))).keep Kq9 nin0).other W14 (Or.inr (slot_ne (Or.inl (wi hw 23 rfl)) (Or.inl (wi hw 14 rfl)) (by decide) (t := (.array .int)) (t' := (.array .int)) (by decide) (by decide)))).keep Kq17 nin0).other W23 (Or.inr (slot_ne (Or.inl (wi hw 23 rfl)) (Or.inl (wi hw 16 rfl)) (by decide) (t := (.array .int)) (t' := (.array .int)) (by decide) (by decide)))).keep Kq27 nin0).other W32 (Or.inr (slot_ne (Or.inl (wi hw 23 rfl)) (Or.inl (wi hw 18 rfl)) (by decide) (t := (.array .int)) (t' := (.array .int)) (by decide) (by decide)))).keep Kq35 nin0).other W40 (Or.inr (slot_ne (Or.inl (wi hw 23 rfl)) (Or.inl (wi hw 21 rfl)) (by decide) (t := (.array .int)) (t' := (.array .double)) (by decide) (by decide))))
  have f64 := ((((((((((P15.keep Kq2 nin0).other W6 (Or.inr (slot_ne (Or.inl (wi hw 35 rfl)) (Or.inl (wi hw 12 rfl)) (by decide) (t := .int) (t' := (.array .int)) (by decide) (by decide)))).keep Kq9 nin0).other W14 (Or.inr (slot_ne (Or.inl (wi hw 35 rfl)) (Or.inl (wi hw 14 rfl)) (by decide) (t := .int) (t' := (.array .int)) (by decide) (by decide)))).keep Kq17 nin0).other W23 (Or.inr (slot_ne (Or.inl (wi hw 35 rfl)) (Or.inl (wi hw 16 rfl)) (by decide) (t := .int) (t' := (.array .int)) (by decide) (by decide)))).keep Kq27 nin0).other W32 (Or.inr (slot_ne (Or.inl (wi hw 35 rfl)) (Or.inl (wi hw 18 rfl)) (by decide) (t := .int) (t' := (.array .int)) (by decide) (by decide)))).keep Kq35 nin0).other W40 (Or.inr (slot_ne (Or.inl (wi hw 35 rfl)) (Or.inl (wi hw 21 rfl)) (by decide) (t := .int) (t' := (.array .double)) (by decide) (by decide))))
  have f65 := ((((((((((P16.keep Kq2 nin0).other W6 (Or.inr (slot_ne (Or.inl (wi hw 70 rfl)) (Or.inl (wi hw 12 rfl)) (by decide) (t := .int) (t' := (.array .int)) (by decide) (by decide)))).keep Kq9 nin0).other W14 (Or.inr (slot_ne (Or.inl (wi hw 70 rfl)) (Or.inl (wi hw 14 rfl)) (by decide) (t := .int) (t' := (.array .int)) (by decide) (by decide)))).keep Kq17 nin0).other W23 (Or.inr (slot_ne (Or.inl (wi hw 70 rfl)) (Or.inl (wi hw 16 rfl)) (by decide) (t := .int) (t' := (.array .int)) (by decide) (by decide)))).keep Kq27 nin0).other W32 (Or.inr (slot_ne (Or.inl (wi hw 70 rfl)) (Or.inl (wi hw 18 rfl)) (by decide) (t := .int) (t' := (.array .int)) (by decide) (by decide)))).keep Kq35 nin0).other W40 (Or.inr (slot_ne (Or.inl (wi hw 70 rfl)) (Or.inl (wi hw 21 rfl)) (by decide) (t := .int) (t' := (.array .double)) (by decide) (by decide))))
  have f66 := ((((((((((P17.keep Kq2 nin0).other W6 (Or.inr (slot_ne (Or.inl (wi hw 72 rfl)) (Or.inl (wi hw 12 rfl)) (by decide) (t := .long) (t' := (.array .int)) (by decide) (by decide)))).keep Kq9 nin0).other W14 (Or.inr (slot_ne (Or.inl (wi hw 72 rfl)) (Or.inl (wi hw 14 rfl)) (by decide) (t := .long) (t' := (.array .int)) (by decide) (by decide)))).keep Kq17 nin0).other W23 (Or.inr (slot_ne (Or.inl (wi hw 72 rfl)) (Or.inl (wi hw 16 rfl)) (by decide) (t := .long) (t' := (.array .int)) (by decide) (by decide)))).keep Kq27 nin0).other W32 (Or.inr (slot_ne (Or.inl (wi hw 72 rfl)) (Or.inl (wi hw 18 rfl)) (by decide) (t := .long) (t' := (.array .int)) (by decide) (by decide)))).keep Kq35 nin0).other W40 (Or.inr (slot_ne (Or.inl (wi hw 72 rfl)) (Or.inl (wi hw 21 rfl)) (by decide) (t := .long) (t' := (.array .double)) (by decide) (by decide))))
  have f67 := (((((((((Fq0_2.other W6 (Ne.symm ne48)).keep Kq9 nin0).other W14 (Ne.symm ne48)).keep Kq17 nin0).other W23 (Ne.symm ne48)).keep Kq27 nin0).other W32 (Ne.symm ne48)).keep Kq35 nin0).other W40 (Ne.symm ne48))
  have f68 := (((((((Fq0_9.other W14 (Ne.symm ne53)).keep Kq17 nin0).other W23 (Ne.symm ne53)).keep Kq27 nin0).other W32 (Ne.symm ne53)).keep Kq35 nin0).other W40 (Ne.symm ne53))
  have f69 := (((((Fq0_17.other W23 (Ne.symm ne57)).keep Kq27 nin0).other W32 (Ne.symm ne57)).keep Kq35 nin0).other W40 (Ne.symm ne57))
  have f70 := (((Fq0_27.other W32 (Ne.symm ne60)).keep Kq35 nin0).other W40 (Ne.symm ne60))
  have ne71 : a1 ≠ b1_35 := Nat.ne_of_lt (Nat.lt_of_lt_of_le f33.lt sqb1_35)
  have f72 := (Fq0_35.other W40 (Ne.symm ne71))
  exact ⟨b1_2, b1_9, b1_17, b1_27, b1_35, rfl, (Fr.snoc X40 N35 ge_a1), ((((K24.trans Kq27 all0).wr W32 (Or.inl (List.mem_of_getElem? (i := 0) rfl))).trans Kq35 all0).wr W40 (Or.inl (List.mem_of_getElem? (i := 0) rfl))), gqb1_2, s3, gqb1_9, s11, gqb1_17, s20, gqb1_27, s29, gqb1_35, s37, ne49, ne50, ne51, ne52, ne54, ne55, ne56, ne58, ne59, ne61, f42, f62, f44, f45, f46, f47, F40, f63, f64, f65, f66, f67, f68, f69, f70, f72⟩
theorem d3_0 : decode prog_12_method_2_code 0 = .ok (.aload_n 0, 1) := by decide +kernel
theorem d3_1 : decode prog_12_method_2_code 1 = .ok (.getfield 37, 3) := by decide +kernel
theorem d3_4 : decode prog_12_method_2_code 4 = .ok (.istore 6, 2) := by decide +kernel
theorem d3_6 : decode prog_12_method_2_code 6 = .ok (.iload 6, 2) := by decide +kernel
theorem d3_8 : decode prog_12_method_2_code 8 = .ok (.aload_n 0, 1) := by decide +kernel
theorem d3_9 : decode prog_12_method_2_code 9 = .ok (.getfield 7, 3) := by decide +kernel
theorem d3_12 : decode prog_12_method_2_code 12 = .ok (.arraylength, 1) := by decide +kernel
theorem d3_13 : decode prog_12_method_2_code 13 = .ok (.if_icmp .ne 12, 3) := by decide +kernel
theorem d3_16 : decode prog_12_method_2_code 16 = .ok (.aload_n 0, 1) := by decide +kernel
theorem d3_17 : decode prog_12_method_2_code 17 = .ok (.iload 6, 2) := by decide +kernel
theorem d3_19 : decode prog_12_method_2_code 19 = .ok (.invokestatic 41, 3) := by decide +kernel
theorem pd4 : parseMethodDescriptor "(I)I" = some ⟨[.int], some .int⟩ := by decide +kernel
theorem d3_22 : decode prog_12_method_2_code 22 = .ok (.invokevirtual 47, 3) := by decide +kernel
theorem pd5 : parseMethodDescriptor "(I)V" = some ⟨[.int], none⟩ := by decide +kernel
theorem d3_25 : decode prog_12_method_2_code 25 = .ok (.aload_n 0, 1) := by decide +kernel
theorem d3_26 : decode prog_12_method_2_code 26 = .ok (.getfield 7, 3) := by decide +kernel
theorem d3_29 : decode prog_12_method_2_code 29 = .ok (.iload 6, 2) := by decide +kernel
theorem d3_31 : decode prog_12_method_2_code 31 = .ok (.iload_n 1, 1) := by decide +kernel
theorem d3_32 : decode prog_12_method_2_code 32 = .ok (.iastore, 1) := by decide +kernel
theorem d3_33 : decode prog_12_method_2_code 33 = .ok (.aload_n 0, 1) := by decide +kernel
theorem d3_34 : decode prog_12_method_2_code 34 = .ok (.getfield 13, 3) := by decide +kernel
theorem d3_37 : decode prog_12_method_2_code 37 = .ok (.iload 6, 2) := by decide +kernel
theorem d3_39 : decode prog_12_method_2_code 39 = .ok (.iload_n 2, 1) := by decide +kernel
theorem d3_40 : decode prog_12_method_2_code 40 = .ok (.iastore, 1) := by decide +kernel
theorem d3_41 : decode prog_12_method_2_code 41 = .ok (.aload_n 0, 1) := by decide +kernel
theorem d3_42 : decode prog_12_method_2_code 42 = .ok (.getfield 22, 3) := by decide +kernel
theorem d3_45 : decode prog_12_method_2_code 45 = .ok (.iload 6, 2) := by decide +kernel
theorem d3_47 : decode prog_12_method_2_code 47 = .ok (.dload_n 3, 1) := by decide +kernel
theorem d3_48 : decode prog_12_method_2_code 48 = .ok (.dastore, 1) := by decide +kernel
theorem d3_49 : decode prog_12_method_2_code 49 = .ok (.aload_n 0, 1) := by decide +kernel
theorem d3_50 : decode prog_12_method_2_code 50 = .ok (.getfield 33, 3) := by decide +kernel
theorem d3_53 : decode prog_12_method_2_code 53 = .ok (.ifCond .eq 12, 3) := by decide +kernel
theorem d3_65 : decode prog_12_method_2_code 65 = .ok (.aload_n 0, 1) := by decide +kernel
theorem d3_66 : decode prog_12_method_2_code 66 = .ok (.iload 6, 2) := by decide +kernel
theorem d3_68 : decode prog_12_method_2_code 68 = .ok (.iconst 1, 1) := by decide +kernel
theorem d3_69 : decode prog_12_method_2_code 69 = .ok (.iadd, 1) := by decide +kernel
theorem d3_70 : decode prog_12_method_2_code 70 = .ok (.putfield 37, 3) := by decide +kernel
theorem d3_73 : decode prog_12_method_2_code 73 = .ok (.aload_n 0, 1) := by decide +kernel
theorem d3_74 : decode prog_12_method_2_code 74 = .ok (.dup, 1) := by decide +kernel
theorem d3_75 : decode prog_12_method_2_code 75 = .ok (.getfield 51, 3) := by decide +kernel
theorem d3_78 : decode prog_12_method_2_code 78 = .ok (.iconst 1, 1) := by decide +kernel
theorem d3_79 : decode prog_12_method_2_code 79 = .ok (.iadd, 1) := by decide +kernel
theorem d3_80 : decode prog_12_method_2_code 80 = .ok (.putfield 51, 3) := by decide +kernel
theorem d3_83 : decode prog_12_method_2_code 83 = .ok (.aload_n 0, 1) := by decide +kernel
theorem d3_84 : decode prog_12_method_2_code 84 = .ok (.dup, 1) := by decide +kernel
theorem d3_85 : decode prog_12_method_2_code 85 = .ok (.getfield 54, 3) := by decide +kernel
theorem d3_88 : decode prog_12_method_2_code 88 = .ok (.lconst 1, 1) := by decide +kernel
theorem d3_89 : decode prog_12_method_2_code 89 = .ok (.ladd, 1) := by decide +kernel
theorem d3_90 : decode prog_12_method_2_code 90 = .ok (.putfield 54, 3) := by decide +kernel
theorem d3_93 : decode prog_12_method_2_code 93 = .ok (.iload 6, 2) := by decide +kernel
theorem d3_95 : decode prog_12_method_2_code 95 = .ok (.ireturn, 1) := by decide +kernel
theorem ef_rm_addA0 (m : MethodId) (x0 : Addr) (x1 : Int32) (x2 : Int32) (x3 : UInt64) (x4 : Int32) : entryFrame m #[(.ref x0), (.int x1), (.int x2), (.double x3), (.int x4)] 7 = mkF m 0 #[.val (.ref x0), .val (.int x1), .val (.int x2), .val (.double x3), .second, .val (.int x4), .unset] [] := by first | (simp [entryFrame, mkF, argsToLocals, Value.category]; done) | rfl
set_option maxRecDepth 65536 in
set_option maxHeartbeats 40000000 in
theorem rm_addA0 (l : Launch) (Z : State) (a0 : Array Value) (hw : ∀ d ∈ tables_1, d.before a0 Z = true) (a1 : Addr) (i1 : Int32) (i2 : Int32) (d1 : UInt64) (i3 : Int32) (x1 : Addr) (x2 : Addr) (x3 : Addr) (x4 : Addr) (x5 : Addr) (x6 : Addr) (x7 : Addr) (g1 : Nat → Int32) (g2 : Nat → Int32) (g3 : Nat → Int32) (g4 : Nat → Int32) (g5 : Nat → UInt64) (g6 : Nat → Int32) (t2 : Int32) (u1 : Int64) (h0 : Heap) (n0 : Nat) (Z0 : n0 ≤ h0.size) (P0 : Exa Z h0 a1 "com/example/edgewise/edgewise/EdgeSlots") (P1 : Fld Z h0 a1 "com/example/edgewise/edgewise/EdgeSlots" "keyed" "Z" (.int (0 : Int32))) (P2 : Fld Z h0 a1 "com/example/edgewise/edgewise/EdgeSlots" "keptNumbers" "[J" (.ref x7)) (P3 : Fld Z h0 a1 "com/example/edgewise/edgewise/EdgeSlots" "sources" "[I" (.ref x1)) (P4 : Fld Z h0 a1 "com/example/edgewise/edgewise/EdgeSlots" "targets" "[I" (.ref x2)) (P5 : Fld Z h0 a1 "com/example/edgewise/edgewise/EdgeSlots" "sourcePositions" "[I" (.ref x3)) (P6 : Fld Z h0 a1 "com/example/edgewise/edgewise/EdgeSlots" "targetPositions" "[I" (.ref x4)) (P7 : Fld Z h0 a1 "com/example/edgewise/edgewise/EdgeSlots" "weights" "[D" (.ref x5)) (P8 : Fld Z h0 a1 "com/example/edgewise/edgewise/EdgeSlots" "keys" "[I" (.ref x6)) (P9 : ArF Z h0 x1 .int 0 (fun i => .int (g1 i))) (P10 : ArF Z h0 x2 .int 0 (fun i => .int (g2 i))) (P11 : ArF Z h0 x3 .int 0 (fun i => .int (g3 i))) (P12 : ArF Z h0 x4 .int 0 (fun i => .int (g4 i))) (P13 : ArF Z h0 x5 .double 0 (fun i => .double (g5 i))) (P14 : ArF Z h0 x6 .int 0 (fun i => .int (g6 i))) (P15 : Fld Z h0 a1 "com/example/edgewise/edgewise/EdgeSlots" "bound" "I" (.int (0 : Int32))) (P16 : Fld Z h0 a1 "com/example/edgewise/edgewise/EdgeSlots" "count" "I" (.int t2)) (P17 : Fld Z h0 a1 "com/example/edgewise/edgewise/EdgeSlots" "nextNumber" "J" (.long u1)) (ne_x1_a1 : x1 ≠ a1) (ne_x2_a1 : x2 ≠ a1) (ne_x3_a1 : x3 ≠ a1) (ne_x4_a1 : x4 ≠ a1) (ne_x5_a1 : x5 ≠ a1) (ne_x6_a1 : x6 ≠ a1) (ge_a1 : n0 ≤ a1) :
    Con l Z (⟨"com/example/edgewise/edgewise/EdgeSlots", "add", "(IIDI)I"⟩ : MethodName) prog_12_method_2_code 7 (some .int) ({ frames := 3, cells := 5, slots := 20, locals := 68 } : Room) #[(.ref a1), (.int i1), (.int i2), (.double d1), (.int i3)] h0 (fun v h L => ∃ (b1 : Addr) (b2 : Addr) (b3 : Addr) (b4 : Addr) (b5 : Addr), v = some (.int (0 : Int32)) ∧ Fr n0 L ∧ Keep h0 h [a1] ∧ n0 ≤ b1 ∧ h0.size ≤ b1 ∧ n0 ≤ b2 ∧ h0.size ≤ b2 ∧ n0 ≤ b3 ∧ h0.size ≤ b3 ∧ n0 ≤ b4 ∧ h0.size ≤ b4 ∧ n0 ≤ b5 ∧ h0.size ≤ b5 ∧ b1 ≠ b2 ∧ b1 ≠ b3 ∧ b1 ≠ b4 ∧ b1 ≠ b5 ∧ b2 ≠ b3 ∧ b2 ≠ b4 ∧ b2 ≠ b5 ∧ b3 ≠ b4 ∧ b3 ≠ b5 ∧ b4 ≠ b5 ∧ Fld Z h a1 "com/example/edgewise/edgewise/EdgeSlots" "keyed" "Z" (.int (0 : Int32)) ∧ Fld Z h a1 "com/example/edgewise/edgewise/EdgeSlots" "keptNumbers" "[J" (.ref x7) ∧ Fld Z h a1 "com/example/edgewise/edgewise/EdgeSlots" "sources" "[I" (.ref b1) ∧ Fld Z h a1 "com/example/edgewise/edgewise/EdgeSlots" "targets" "[I" (.ref b2) ∧ Fld Z h a1 "com/example/edgewise/edgewise/EdgeSlots" "sourcePositions" "[I" (.ref b3) ∧ Fld Z h a1 "com/example/edgewise/edgewise/EdgeSlots" "targetPositions" "[I" (.ref b4) ∧ Fld Z h a1 "com/example/edgewise/edgewise/EdgeSlots" "weights" "[D" (.ref b5) ∧ Fld Z h a1 "com/example/edgewise/edgewise/EdgeSlots" "keys" "[I" (.ref x6) ∧ Fld Z h a1 "com/example/edgewise/edgewise/EdgeSlots" "bound" "I" (.int (1 : Int32)) ∧ Fld Z h a1 "com/example/edgewise/edgewise/EdgeSlots" "count" "I" (.int (t2 + (1 : Int32))) ∧ Fld Z h a1 "com/example/edgewise/edgewise/EdgeSlots" "nextNumber" "J" (.long (u1 + (1 : Int64))) ∧ ArF Z h b1 .int 4 (fun i => .int ((upI (fun _ => (0 : Int32)) 0 i1) i)) ∧ ArF Z h b2 .int 4 (fun i => .int ((upI (fun _ => (0 : Int32)) 0 i2) i)) ∧ ArF Z h b3 .int 4 (fun i => .int ((fun _ => (0 : Int32)) i)) ∧ ArF Z h b4 .int 4 (fun i => .int ((fun _ => (0 : Int32)) i)) ∧ ArF Z h b5 .double 4 (fun i => .double ((upD (fun _ => (0 : UInt64)) 0 d1) i))) := by
  refine meet (y := (⟨"com/example/edgewise/edgewise/EdgeSlots", "add", "(IIDI)I"⟩ : MethodName)) (Q := fun v h L => ∃ (b1 : Addr) (b2 : Addr) (b3 : Addr) (b4 : Addr) (b5 : Addr), v = some (.int (0 : Int32)) ∧ Fr n0 L ∧ Keep h0 h [a1] ∧ n0 ≤ b1 ∧ h0.size ≤ b1 ∧ n0 ≤ b2 ∧ h0.size ≤ b2 ∧ n0 ≤ b3 ∧ h0.size ≤ b3 ∧ n0 ≤ b4 ∧ h0.size ≤ b4 ∧ n0 ≤ b5 ∧ h0.size ≤ b5 ∧ b1 ≠ b2 ∧ b1 ≠ b3 ∧ b1 ≠ b4 ∧ b1 ≠ b5 ∧ b2 ≠ b3 ∧ b2 ≠ b4 ∧ b2 ≠ b5 ∧ b3 ≠ b4 ∧ b3 ≠ b5 ∧ b4 ≠ b5 ∧ Fld Z h a1 "com/example/edgewise/edgewise/EdgeSlots" "keyed" "Z" (.int (0 : Int32)) ∧ Fld Z h a1 "com/example/edgewise/edgewise/EdgeSlots" "keptNumbers" "[J" (.ref x7) ∧ Fld Z h a1 "com/example/edgewise/edgewise/EdgeSlots" "sources" "[I" (.ref b1) ∧ Fld Z h a1 "com/example/edgewise/edgewise/EdgeSlots" "targets" "[I" (.ref b2) ∧ Fld Z h a1 "com/example/edgewise/edgewise/EdgeSlots" "sourcePositions" "[I" (.ref b3) ∧ Fld Z h a1 "com/example/edgewise/edgewise/EdgeSlots" "targetPositions" "[I" (.ref b4) ∧ Fld Z h a1 "com/example/edgewise/edgewise/EdgeSlots" "weights" "[D" (.ref b5) ∧ Fld Z h a1 "com/example/edgewise/edgewise/EdgeSlots" "keys" "[I" (.ref x6) ∧ Fld Z h a1 "com/example/edgewise/edgewise/EdgeSlots" "bound" "I" (.int (1 : Int32)) ∧ Fld Z h a1 "com/example/edgewise/edgewise/EdgeSlots" "count" "I" (.int (t2 + (1 : Int32))) ∧ Fld Z h a1 "com/example/edgewise/edgewise/EdgeSlots" "nextNumber" "J" (.long (u1 + (1 : Int64))) ∧ ArF Z h b1 .int 4 (fun i => .int ((upI (fun _ => (0 : Int32)) 0 i1) i)) ∧ ArF Z h b2 .int 4 (fun i => .int ((upI (fun _ => (0 : Int32)) 0 i2) i)) ∧ ArF Z h b3 .int 4 (fun i => .int ((fun _ => (0 : Int32)) i)) ∧ ArF Z h b4 .int 4 (fun i => .int ((fun _ => (0 : Int32)) i)) ∧ ArF Z h b5 .double 4 (fun i => .double ((upD (fun _ => (0 : UInt64)) 0 d1) i))) (plainFor_of_name pn_com_example_edgewise_edgewise_EdgeSlots) (fun m => ef_rm_addA0 m a1 i1 i2 d1 i3) ?_
  intro p e s m below meth c T0 hx hby hml hZ hown hnm hret hlk X0 e0
  have N0 := Fr.nil n0
  have K0 := Keep.refl h0 [a1]
  refine g_aloadN X0 hx hby d3_0 (pc' := 1) rfl rfl rfl ?_
  refine g_getf X0 hx hby hZ hown (host := "") (Or.inl (wi hw 34 rfl)) Via.refl e0 P15 d3_1 (pc' := 4) rfl ?_
  intro T1 X1 e1
  refine g_istore X1 hx hby d3_4 (pc' := 6) rfl (L' := #[.val (.ref a1), .val (.int i1), .val (.int i2), .val (.double d1), .second, .val (.int i3), .val (.int (0 : Int32))]) rfl ?_
  refine g_iload X1 hx hby d3_6 (pc' := 8) rfl rfl ?_
  refine g_aloadN X1 hx hby d3_8 (pc' := 9) rfl rfl rfl ?_
  refine g_getf X1 hx hby hZ hown (host := "") (Or.inl (wi hw 11 rfl)) Via.refl e1 P3 d3_9 (pc' := 12) rfl ?_
  intro T2 X2 e2
  refine Go.alen X2 hx hZ e2 P9 (z := (0 : Int32)) rfl (hb hby d3_12) (pc' := 13) rfl ?_
  have hc13 : (0 : Int) = (0 : Int) := by decide
  refine g_icmpNo X2 hx hby d3_13 (pc' := 16) (teq (show (0 : Int32) = (0 : Int32) from Int32.toInt_inj.mp hc13)).2 rfl ?_
  refine g_aloadN X2 hx hby d3_16 (pc' := 17) rfl rfl rfl ?_
  refine g_iload X2 hx hby d3_17 (pc' := 19) rfl rfl ?_
  refine Go.callS X2 hx hZ hown (wi hw 36 rfl) (wi hw 37 rfl) (wi hw 38 rfl) (wi hw 39 rfl) (by decide) e2 (argsL := [(.int (0 : Int32))]) (rest := [(.ref a1)]) (W := 1) (rm_next0 l Z a0 hw  h0 n0 Z0 ) (hb hby d3_19) (by rw [hml]; rfl) rfl pd4 rfl rfl (by decide) (by decide) (by decide) (by decide) ?_
  intro v3 T3 L3 X3 hQ3
  obtain ⟨rfl, Nq3, hh3⟩ := hQ3
  have N3 := Fr.app N0 Nq3
  refine Go.push (pc' := 22) rfl ?_
  refine Go.callP X3 hx hZ (y := (⟨"com/example/edgewise/edgewise/EdgeSlots", "resize", "(I)V"⟩ : MethodName)) hown (wi hw 51 rfl) (wi hw 52 rfl) (wi hw 2 rfl) (wi hw 53 rfl) (wi hw 3 rfl) (wi hw 54 rfl) (by decide) hh3 (a := a1)  (argsL := [(.int (4 : Int32))]) (rest := []) (W := 0) P0 (rm_resize0 l Z a0 hw a1 x1 x2 x3 x4 x5 x6 x7 g1 g2 g3 g4 g5 g6 (0 : Int32) t2 u1 h0 n0 Z0 P0 P1 P2 P3 P4 P5 P6 P7 P8 P9 P10 P11 P12 P13 P14 P15 P16 P17 ne_x1_a1 ne_x2_a1 ne_x3_a1 ne_x4_a1 ne_x5_a1 ne_x6_a1 ge_a1) (hb hby d3_22) (by rw [hml]; rfl) rfl pd5 rfl rfl (by decide) (by decide) (by decide) (by decide) ?_
  intro v4 T4 L4 X4 hQ4
  obtain ⟨h4, e4⟩ : ∃ z, T4.heap = z := ⟨_, rfl⟩
  rw [e4] at hQ4
  obtain ⟨b1_4, b2_4, b3_4, b4_4, b5_4, rfl, Nq4, Kq4, gqb1_4, sqb1_4, gqb2_4, sqb2_4, gqb3_4, sqb3_4, gqb4_4, sqb4_4, gqb5_4, sqb5_4, nqb1_b2_4, nqb1_b3_4, nqb1_b4_4, nqb1_b5_4, nqb2_b3_4, nqb2_b4_4, nqb2_b5_4, nqb3_b4_4, nqb3_b5_4, nqb4_b5_4, Fq0_4, Fq1_4, Fq2_4, Fq3_4, Fq4_4, Fq5_4, Fq6_4, Fq7_4, Fq8_4, Fq9_4, Fq10_4, Fq11_4, Fq12_4, Fq13_4, Fq14_4, Fq15_4⟩ := hQ4
  have N4 := Fr.app N3 Nq4
  have s5 : h0.size ≤ b1_4 := Nat.le_trans K0.1 sqb1_4
  have s6 : h0.size ≤ b2_4 := Nat.le_trans K0.1 sqb2_4
  have s7 : h0.size ≤ b3_4 := Nat.le_trans K0.1 sqb3_4
  have s8 : h0.size ≤ b4_4 := Nat.le_trans K0.1 sqb4_4
  have s9 : h0.size ≤ b5_4 := Nat.le_trans K0.1 sqb5_4
  refine Go.void (pc' := 25) rfl ?_
  refine g_aloadN X4 hx hby d3_25 (pc' := 26) rfl rfl rfl ?_
  refine g_getf X4 hx hby hZ hown (host := "") (Or.inl (wi hw 11 rfl)) Via.refl e4 Fq2_4 d3_26 (pc' := 29) rfl ?_
  intro T10 X10 e10
  refine g_iload X10 hx hby d3_29 (pc' := 31) rfl rfl ?_
  refine g_iloadN X10 hx hby d3_31 (pc' := 32) rfl rfl ?_
  refine Go.iastore X10 hx hZ e10 Fq11_4 (k := 0) rfl (by decide) (hb hby d3_32) (pc' := 33) rfl ?_
  intro T11 h11 X11 e11 W11 V11
  refine g_aloadN X11 hx hby d3_33 (pc' := 34) rfl rfl rfl ?_
  have ne12 : a1 ≠ b1_4 := Nat.ne_of_lt (Nat.lt_of_lt_of_le P17.lt sqb1_4)
  have f13 := (Fq3_4.other W11 (Or.inl ne12))
  refine g_getf X11 hx hby hZ hown (host := "") (Or.inl (wi hw 13 rfl)) Via.refl e11 f13 d3_34 (pc' := 37) rfl ?_
  intro T14 X14 e14
  refine g_iload X14 hx hby d3_37 (pc' := 39) rfl rfl ?_
  refine g_iloadN X14 hx hby d3_39 (pc' := 40) rfl rfl ?_
  have f15 := (Fq12_4.other W11 (Ne.symm nqb1_b2_4))
  refine Go.iastore X14 hx hZ e14 f15 (k := 0) rfl (by decide) (hb hby d3_40) (pc' := 41) rfl ?_
  intro T16 h16 X16 e16 W16 V16
  refine g_aloadN X16 hx hby d3_41 (pc' := 42) rfl rfl rfl ?_
  have ne17 : a1 ≠ b2_4 := Nat.ne_of_lt (Nat.lt_of_lt_of_le P17.lt sqb2_4)
  have f18 := ((Fq6_4.other W11 (Or.inl ne12)).other W16 (Or.inl ne17))
  refine g_getf X16 hx hby hZ hown (host := "") (Or.inl (wi hw 20 rfl)) Via.refl e16 f18 d3_42 (pc' := 45) rfl ?_
  intro T19 X19 e19
  refine g_iload X19 hx hby d3_45 (pc' := 47) rfl rfl ?_
  refine g_dloadN X19 hx hby d3_47 (pc' := 48) rfl rfl ?_
  have f20 := ((Fq15_4.other W11 (Ne.symm nqb1_b5_4)).other W16 (Ne.symm nqb2_b5_4))
  refine Go.dastore X19 hx hZ e19 f20 (k := 0) rfl (by decide) (hb hby d3_48) (pc' := 49) rfl ?_
  intro T21 h21 X21 e21 W21 V21
  have z22 : n0 ≤ h21.size := (Nat.le_trans (Nat.le_trans (Nat.le_trans (Nat.le_trans Z0 Kq4.1) (Nat.le_of_eq (Wr.size W11).symm)) (Nat.le_of_eq (Wr.size W16).symm)) (Nat.le_of_eq (Wr.size W21).symm))
  refine g_aloadN X21 hx hby d3_49 (pc' := 50) rfl rfl rfl ?_
  have ne23 : a1 ≠ b5_4 := Nat.ne_of_lt (Nat.lt_of_lt_of_le P17.lt sqb5_4)
  have f24 := (((Fq0_4.other W11 (Or.inl ne12)).other W16 (Or.inl ne17)).other W21 (Or.inl ne23))
  refine g_getf X21 hx hby hZ hown (host := "") (Or.inl (wi hw 27 rfl)) Via.refl e21 f24 d3_50 (pc' := 53) rfl ?_
  intro T25 X25 e25
  have hc53 : (0 : Int) = (0 : Int) := by decide
  refine g_ifYes X25 hx hby d3_53 (pc' := 65) (teq (show (0 : Int32) = (0 : Int32) from Int32.toInt_inj.mp hc53)).1 (by decide) (by decide) ?_
  refine g_aloadN X25 hx hby d3_65 (pc' := 66) rfl rfl rfl ?_
  refine g_iload X25 hx hby d3_66 (pc' := 68) rfl rfl ?_
  refine g_iconst X25 hx hby d3_68 (pc' := 69) rfl (z := (1 : Int32)) rfl ?_
  refine g_iadd X25 hx hby d3_69 (pc' := 70) rfl (z := (1 : Int32)) rfl ?_
  have f26 := (((Fq8_4.other W11 (Or.inl ne12)).other W16 (Or.inl ne17)).other W21 (Or.inl ne23))
  have f27 := ((((P0.keep Kq4).wr W11).wr W16).wr W21)
  refine g_putf X25 hx hby hZ hown (host := "") (Or.inl (wi hw 34 rfl)) Via.refl e25 f26 f27 (Or.inl (wi hw 35 rfl)) (wi hw 2 rfl) (ty := .int) (by decide) rfl rfl d3_70 (pc' := 73) rfl ?_
  intro T28 h28 X28 e28 W28 F28
  refine g_aloadN X28 hx hby d3_73 (pc' := 74) rfl rfl rfl ?_
  refine g_dup X28 hx hby d3_74 (pc' := 75) rfl rfl ?_
  have f29 := ((((Fq9_4.other W11 (Or.inl ne12)).other W16 (Or.inl ne17)).other W21 (Or.inl ne23)).other W28 (Or.inr (slot_ne (Or.inl (wi hw 70 rfl)) (Or.inl (wi hw 35 rfl)) (by decide) (t := .int) (t' := .int) (by decide) (by decide))))
  refine g_getf X28 hx hby hZ hown (host := "") (Or.inl (wi hw 69 rfl)) Via.refl e28 f29 d3_75 (pc' := 78) rfl ?_
  intro T30 X30 e30
  refine g_iconst X30 hx hby d3_78 (pc' := 79) rfl (z := (1 : Int32)) rfl ?_
  refine g_iadd X30 hx hby d3_79 (pc' := 80) rfl rfl ?_
  have f31 := f27.wr W28
  refine g_putf X30 hx hby hZ hown (host := "") (Or.inl (wi hw 69 rfl)) Via.refl e30 f29 f31 (Or.inl (wi hw 70 rfl)) (wi hw 2 rfl) (ty := .int) (by decide) rfl rfl d3_80 (pc' := 83) rfl ?_
  intro T32 h32 X32 e32 W32 F32
  have K33 : Keep h0 h32 [a1] := ((((((K0.trans Kq4 (allS (Or.inl (List.mem_of_getElem? (i := 0) rfl)) all0)).wr W11 (Or.inr s5)).wr W16 (Or.inr s6)).wr W21 (Or.inr s9)).wr W28 (Or.inl (List.mem_of_getElem? (i := 0) rfl))).wr W32 (Or.inl (List.mem_of_getElem? (i := 0) rfl)))
  refine g_aloadN X32 hx hby d3_83 (pc' := 84) rfl rfl rfl ?_
  refine g_dup X32 hx hby d3_84 (pc' := 85) rfl rfl ?_
  have f34 := (((((Fq10_4.other W11 (Or.inl ne12)).other W16 (Or.inl ne17)).other W21 (Or.inl ne23)).other W28 (Or.inr (slot_ne (Or.inl (wi hw 72 rfl)) (Or.inl (wi hw 35 rfl)) (by decide) (t := .long) (t' := .int) (by decide) (by decide)))).other W32 (Or.inr (slot_ne (Or.inl (wi hw 72 rfl)) (Or.inl (wi hw 70 rfl)) (by decide) (t := .long) (t' := .int) (by decide) (by decide))))
  refine g_getf X32 hx hby hZ hown (host := "") (Or.inl (wi hw 71 rfl)) Via.refl e32 f34 d3_85 (pc' := 88) rfl ?_
  intro T35 X35 e35
  refine Go.of (fun _ k => XS.lconst X35.here hx rfl (hb hby d3_88) k) ?_
  show Go p.tables e below s _ _ _ (T35.setTop (mkF m 89 #[.val (.ref a1), .val (.int i1), .val (.int i2), .val (.double d1), .second, .val (.int i3), .val (.int (0 : Int32))] [(.long (1 : Int64)), (.long u1), (.ref a1)]))
  refine g_ladd X35 hx hby d3_89 (pc' := 90) rfl rfl ?_
  have f36 := f31.wr W32
  refine g_putf X35 hx hby hZ hown (host := "") (Or.inl (wi hw 71 rfl)) Via.refl e35 f34 f36 (Or.inl (wi hw 72 rfl)) (wi hw 2 rfl) (ty := .long) (by decide) rfl rfl d3_90 (pc' := 93) rfl ?_
  intro T37 h37 X37 e37 W37 F37
  have N37 := (Fr.snoc X37 (Fr.snoc X32 (Fr.snoc X28 (Fr.snoc X21 (Fr.snoc X16 (Fr.snoc X11 N4 gqb1_4) gqb2_4) gqb5_4) ge_a1) ge_a1) ge_a1)
  refine g_iload X37 hx hby d3_93 (pc' := 95) rfl rfl ?_
  refine Go.retI X37 hx hlk hret (hb hby d3_95) (by decide) (by decide) ?_
  have f38 := ((((((Fq2_4.other W11 (Or.inl ne12)).other W16 (Or.inl ne17)).other W21 (Or.inl ne23)).other W28 (Or.inr (slot_ne (Or.inl (wi hw 12 rfl)) (Or.inl (wi hw 35 rfl)) (by decide) (t := (.array .int)) (t' := .int) (by decide) (by decide)))).other W32 (Or.inr (slot_ne (Or.inl (wi hw 12 rfl)) (Or.inl (wi hw 70 rfl)) (by decide) (t := (.array .int)) (t' := .int) (by decide) (by decide)))).other W37 (Or.inr (slot_ne (Or.inl (wi hw 12 rfl)) (Or.inl (wi hw 72 rfl)) (by decide) (t := (.array .int)) (t' := .long) (by decide) (by decide))))
  have f39 := (((((f13.other W16 (Or.inl ne17)).other W21 (Or.inl ne23)).other W28 (Or.inr (slot_ne (Or.inl (wi hw 14 rfl)) (Or.inl (wi hw 35 rfl)) (by decide) (t := (.array .int)) (t' := .int) (by decide) (by decide)))).other W32 (Or.inr (slot_ne (Or.inl (wi hw 14 rfl)) (Or.inl (wi hw 70 rfl)) (by decide) (t := (.array .int)) (t' := .int) (by decide) (by decide)))).other W37 (Or.inr (slot_ne (Or.inl (wi hw 14 rfl)) (Or.inl (wi hw 72 rfl)) (by decide) (t := (.array .int)) (t' := .long) (by decide) (by decide))))
  have f40 := ((((((Fq4_4.other W11 (Or.inl ne12)).other W16 (Or.inl ne17)).other W21 (Or.inl ne23)).other W28 (Or.inr (slot_ne (Or.inl (wi hw 16 rfl)) (Or.inl (wi hw 35 rfl)) (by decide) (t := (.array .int)) (t' := .int) (by decide) (by decide)))).other W32 (Or.inr (slot_ne (Or.inl (wi hw 16 rfl)) (Or.inl (wi hw 70 rfl)) (by decide) (t := (.array .int)) (t' := .int) (by decide) (by decide)))).other W37 (Or.inr (slot_ne (Or.inl (wi hw 16 rfl)) (Or.inl (wi hw 72 rfl)) (by decide) (t := (.array .int)) (t' := .long) (by decide) (by decide))))
  have f41 := ((((((Fq5_4.other W11 (Or.inl ne12)).other W16 (Or.inl ne17)).other W21 (Or.inl ne23)).other W28 (Or.inr (slot_ne (Or.inl (wi hw 18 rfl)) (Or.inl (wi hw 35 rfl)) (by decide) (t := (.array .int)) (t' := .int) (by decide) (by decide)))).other W32 (Or.inr (slot_ne (Or.inl (wi hw 18 rfl)) (Or.inl (wi hw 70 rfl)) (by decide) (t := (.array .int)) (t' := .int) (by decide) (by decide)))).other W37 (Or.inr (slot_ne (Or.inl (wi hw 18 rfl)) (Or.inl (wi hw 72 rfl)) (by decide) (t := (.array .int)) (t' := .long) (by decide) (by decide))))
  have f42 := ((((f18.other W21 (Or.inl ne23)).other W28 (Or.inr (slot_ne (Or.inl (wi hw 21 rfl)) (Or.inl (wi hw 35 rfl)) (by decide) (t := (.array .double)) (t' := .int) (by decide) (by decide)))).other W32 (Or.inr (slot_ne (Or.inl (wi hw 21 rfl)) (Or.inl (wi hw 70 rfl)) (by decide) (t := (.array .double)) (t' := .int) (by decide) (by decide)))).other W37 (Or.inr (slot_ne (Or.inl (wi hw 21 rfl)) (Or.inl (wi hw 72 rfl)) (by decide) (t := (.array .double)) (t' := .long) (by decide) (by decide))))
  rw [e37]
  have f43 := (((f24.other W28 (Or.inr (slot_ne (Or.inr (wi hw 28 rfl)) (Or.inl (wi hw 35 rfl)) (by decide) (t := .boolean) (t' := .int) (by decide) (by decide)))).other W32 (Or.inr (slot_ne (Or.inr (wi hw 28 rfl)) (Or.inl (wi hw 70 rfl)) (by decide) (t := .boolean) (t' := .int) (by decide) (by decide)))).other W37 (Or.inr (slot_ne (Or.inr (wi hw 28 rfl)) (Or.inl (wi hw 72 rfl)) (by decide) (t := .boolean) (t' := .long) (by decide) (by decide))))
  have f44 := ((((((Fq1_4.other W11 (Or.inl ne12)).other W16 (Or.inl ne17)).other W21 (Or.inl ne23)).other W28 (Or.inr (slot_ne (Or.inl (wi hw 26 rfl)) (Or.inl (wi hw 35 rfl)) (by decide) (t := (.array .long)) (t' := .int) (by decide) (by decide)))).other W32 (Or.inr (slot_ne (Or.inl (wi hw 26 rfl)) (Or.inl (wi hw 70 rfl)) (by decide) (t := (.array .long)) (t' := .int) (by decide) (by decide)))).other W37 (Or.inr (slot_ne (Or.inl (wi hw 26 rfl)) (Or.inl (wi hw 72 rfl)) (by decide) (t := (.array .long)) (t' := .long) (by decide) (by decide))))
  have f45 := ((((((Fq7_4.other W11 (Or.inl ne12)).other W16 (Or.inl ne17)).other W21 (Or.inl ne23)).other W28 (Or.inr (slot_ne (Or.inl (wi hw 23 rfl)) (Or.inl (wi hw 35 rfl)) (by decide) (t := (.array .int)) (t' := .int) (by decide) (by decide)))).other W32 (Or.inr (slot_ne (Or.inl (wi hw 23 rfl)) (Or.inl (wi hw 70 rfl)) (by decide) (t := (.array .int)) (t' := .int) (by decide) (by decide)))).other W37 (Or.inr (slot_ne (Or.inl (wi hw 23 rfl)) (Or.inl (wi hw 72 rfl)) (by decide) (t := (.array .int)) (t' := .long) (by decide) (by decide))))
  have f46 := ((F28.other W32 (Or.inr (slot_ne (Or.inl (wi hw 35 rfl)) (Or.inl (wi hw 70 rfl)) (by decide) (t := .int) (t' := .int) (by decide) (by decide)))).other W37 (Or.inr (slot_ne (Or.inl (wi hw 35 rfl)) (Or.inl (wi hw 72 rfl)) (by decide) (t := .int) (t' := .long) (by decide) (by decide))))
  have f47 := (F32.other W37 (Or.inr (slot_ne (Or.inl (wi hw 70 rfl)) (Or.inl (wi hw 72 rfl)) (by decide) (t := .int) (t' := .long) (by decide) (by decide))))
  have f48 := (((((V11.other W16 nqb1_b2_4).other W21 nqb1_b5_4).other W28 (Ne.symm ne12)).other W32 (Ne.symm ne12)).other W37 (Ne.symm ne12))
  have f49 := ((((V16.other W21 nqb2_b5_4).other W28 (Ne.symm ne17)).other W32 (Ne.symm ne17)).other W37 (Ne.symm ne17))
  have ne50 : a1 ≠ b3_4 := Nat.ne_of_lt (Nat.lt_of_lt_of_le P17.lt sqb3_4)
  have f51 := ((((((Fq13_4.other W11 (Ne.symm nqb1_b3_4)).other W16 (Ne.symm nqb2_b3_4)).other W21 nqb3_b5_4).other W28 (Ne.symm ne50)).other W32 (Ne.symm ne50)).other W37 (Ne.symm ne50))
  have ne52 : a1 ≠ b4_4 := Nat.ne_of_lt (Nat.lt_of_lt_of_le P17.lt sqb4_4)
  have f53 := ((((((Fq14_4.other W11 (Ne.symm nqb1_b4_4)).other W16 (Ne.symm nqb2_b4_4)).other W21 nqb4_b5_4).other W28 (Ne.symm ne52)).other W32 (Ne.symm ne52)).other W37 (Ne.symm ne52))
  have f54 := (((V21.other W28 (Ne.symm ne23)).other W32 (Ne.symm ne23)).other W37 (Ne.symm ne23))
  exact ⟨b1_4, b2_4, b3_4, b4_4, b5_4, rfl, N37, (K33.wr W37 (Or.inl (List.mem_of_getElem? (i := 0) rfl))), gqb1_4, s5, gqb2_4, s6, gqb3_4, s7, gqb4_4, s8, gqb5_4, s9, nqb1_b2_4, nqb1_b3_4, nqb1_b4_4, nqb1_b5_4, nqb2_b3_4, nqb2_b4_4, nqb2_b5_4, nqb3_b4_4, nqb3_b5_4, nqb4_b5_4, f43, f44, f38, f39, f40, f41, f42, f45, f46, f47, F37, f48, f49, f51, f53, f54⟩
theorem ef_rm_addB0 (m : MethodId) (x0 : Addr) (x1 : Int32) (x2 : Int32) (x3 : UInt64) (x4 : Int32) : entryFrame m #[(.ref x0), (.int x1), (.int x2), (.double x3), (.int x4)] 7 = mkF m 0 #[.val (.ref x0), .val (.int x1), .val (.int x2), .val (.double x3), .second, .val (.int x4), .unset] [] := by first | (simp [entryFrame, mkF, argsToLocals, Value.category]; done) | rfl
set_option maxRecDepth 65536 in
set_option maxHeartbeats 40000000 in
theorem rm_addB0 (l : Launch) (Z : State) (a0 : Array Value) (hw : ∀ d ∈ tables_1, d.before a0 Z = true) (a1 : Addr) (i1 : Int32) (i2 : Int32) (d1 : UInt64) (i3 : Int32) (x1 : Addr) (x2 : Addr) (x3 : Addr) (x4 : Addr) (x5 : Addr) (x6 : Addr) (x7 : Addr) (g1 : Nat → Int32) (g2 : Nat → Int32) (g5 : Nat → UInt64) (t1 : Int32) (t2 : Int32) (u1 : Int64) (k1 : Nat) (h0 : Heap) (n0 : Nat) (Z0 : n0 ≤ h0.size) (P0 : Exa Z h0 a1 "com/example/edgewise/edgewise/EdgeSlots") (P1 : Fld Z h0 a1 "com/example/edgewise/edgewise/EdgeSlots" "keyed" "Z" (.int (0 : Int32))) (P2 : Fld Z h0 a1 "com/example/edgewise/edgewise/EdgeSlots" "keptNumbers" "[J" (.ref x7)) (P3 : Fld Z h0 a1 "com/example/edgewise/edgewise/EdgeSlots" "sources" "[I" (.ref x1)) (P4 : Fld Z h0 a1 "com/example/edgewise/edgewise/EdgeSlots" "targets" "[I" (.ref x2)) (P5 : Fld Z h0 a1 "com/example/edgewise/edgewise/EdgeSlots" "sourcePositions" "[I" (.ref x3)) (P6 : Fld Z h0 a1 "com/example/edgewise/edgewise/EdgeSlots" "targetPositions" "[I" (.ref x4)) (P7 : Fld Z h0 a1 "com/example/edgewise/edgewise/EdgeSlots" "weights" "[D" (.ref x5)) (P8 : Fld Z h0 a1 "com/example/edgewise/edgewise/EdgeSlots" "keys" "[I" (.ref x6)) (P9 : ArF Z h0 x1 .int 4 (fun i => .int (g1 i))) (P10 : ArF Z h0 x2 .int 4 (fun i => .int (g2 i))) (P11 : ArF Z h0 x5 .double 4 (fun i => .double (g5 i))) (P12 : Fld Z h0 a1 "com/example/edgewise/edgewise/EdgeSlots" "bound" "I" (.int t1)) (P13 : Fld Z h0 a1 "com/example/edgewise/edgewise/EdgeSlots" "count" "I" (.int t2)) (P14 : Fld Z h0 a1 "com/example/edgewise/edgewise/EdgeSlots" "nextNumber" "J" (.long u1)) (ne_x1_a1 : x1 ≠ a1) (ne_x2_a1 : x2 ≠ a1) (ne_x5_a1 : x5 ≠ a1) (ne_x1_x2 : x1 ≠ x2) (ne_x1_x5 : x1 ≠ x5) (ne_x2_x5 : x2 ≠ x5) (ge_a1 : n0 ≤ a1) (ge_x1 : n0 ≤ x1) (ge_x2 : n0 ≤ x2) (ge_x5 : n0 ≤ x5) (hk : t1.toInt = (k1 : Int)) (hbd : k1 < 4) :
    Con l Z (⟨"com/example/edgewise/edgewise/EdgeSlots", "add", "(IIDI)I"⟩ : MethodName) prog_12_method_2_code 7 (some .int) ({ frames := 0, cells := 0, slots := 0, locals := 0 } : Room) #[(.ref a1), (.int i1), (.int i2), (.double d1), (.int i3)] h0 (fun v h L => v = some (.int t1) ∧ Fr n0 L ∧ Keep h0 h [a1, x1, x2, x5] ∧ Fld Z h a1 "com/example/edgewise/edgewise/EdgeSlots" "keyed" "Z" (.int (0 : Int32)) ∧ Fld Z h a1 "com/example/edgewise/edgewise/EdgeSlots" "keptNumbers" "[J" (.ref x7) ∧ Fld Z h a1 "com/example/edgewise/edgewise/EdgeSlots" "sources" "[I" (.ref x1) ∧ Fld Z h a1 "com/example/edgewise/edgewise/EdgeSlots" "targets" "[I" (.ref x2) ∧ Fld Z h a1 "com/example/edgewise/edgewise/EdgeSlots" "sourcePositions" "[I" (.ref x3) ∧ Fld Z h a1 "com/example/edgewise/edgewise/EdgeSlots" "targetPositions" "[I" (.ref x4) ∧ Fld Z h a1 "com/example/edgewise/edgewise/EdgeSlots" "weights" "[D" (.ref x5) ∧ Fld Z h a1 "com/example/edgewise/edgewise/EdgeSlots" "keys" "[I" (.ref x6) ∧ Fld Z h a1 "com/example/edgewise/edgewise/EdgeSlots" "bound" "I" (.int (t1 + (1 : Int32))) ∧ Fld Z h a1 "com/example/edgewise/edgewise/EdgeSlots" "count" "I" (.int (t2 + (1 : Int32))) ∧ Fld Z h a1 "com/example/edgewise/edgewise/EdgeSlots" "nextNumber" "J" (.long (u1 + (1 : Int64))) ∧ ArF Z h x1 .int 4 (fun i => .int ((upI g1 k1 i1) i)) ∧ ArF Z h x2 .int 4 (fun i => .int ((upI g2 k1 i2) i)) ∧ ArF Z h x5 .double 4 (fun i => .double ((upD g5 k1 d1) i))) := by
  refine meet (y := (⟨"com/example/edgewise/edgewise/EdgeSlots", "add", "(IIDI)I"⟩ : MethodName)) (Q := fun v h L => v = some (.int t1) ∧ Fr n0 L ∧ Keep h0 h [a1, x1, x2, x5] ∧ Fld Z h a1 "com/example/edgewise/edgewise/EdgeSlots" "keyed" "Z" (.int (0 : Int32)) ∧ Fld Z h a1 "com/example/edgewise/edgewise/EdgeSlots" "keptNumbers" "[J" (.ref x7) ∧ Fld Z h a1 "com/example/edgewise/edgewise/EdgeSlots" "sources" "[I" (.ref x1) ∧ Fld Z h a1 "com/example/edgewise/edgewise/EdgeSlots" "targets" "[I" (.ref x2) ∧ Fld Z h a1 "com/example/edgewise/edgewise/EdgeSlots" "sourcePositions" "[I" (.ref x3) ∧ Fld Z h a1 "com/example/edgewise/edgewise/EdgeSlots" "targetPositions" "[I" (.ref x4) ∧ Fld Z h a1 "com/example/edgewise/edgewise/EdgeSlots" "weights" "[D" (.ref x5) ∧ Fld Z h a1 "com/example/edgewise/edgewise/EdgeSlots" "keys" "[I" (.ref x6) ∧ Fld Z h a1 "com/example/edgewise/edgewise/EdgeSlots" "bound" "I" (.int (t1 + (1 : Int32))) ∧ Fld Z h a1 "com/example/edgewise/edgewise/EdgeSlots" "count" "I" (.int (t2 + (1 : Int32))) ∧ Fld Z h a1 "com/example/edgewise/edgewise/EdgeSlots" "nextNumber" "J" (.long (u1 + (1 : Int64))) ∧ ArF Z h x1 .int 4 (fun i => .int ((upI g1 k1 i1) i)) ∧ ArF Z h x2 .int 4 (fun i => .int ((upI g2 k1 i2) i)) ∧ ArF Z h x5 .double 4 (fun i => .double ((upD g5 k1 d1) i))) (plainFor_of_name pn_com_example_edgewise_edgewise_EdgeSlots) (fun m => ef_rm_addB0 m a1 i1 i2 d1 i3) ?_
  intro p e s m below meth c T0 hx hby hml hZ hown hnm hret hlk X0 e0
  have N0 := Fr.nil n0
  have K0 := Keep.refl h0 [a1, x1, x2, x5]
  refine g_aloadN X0 hx hby d3_0 (pc' := 1) rfl rfl rfl ?_
  refine g_getf X0 hx hby hZ hown (host := "") (Or.inl (wi hw 34 rfl)) Via.refl e0 P12 d3_1 (pc' := 4) rfl ?_
  intro T1 X1 e1
  refine g_istore X1 hx hby d3_4 (pc' := 6) rfl (L' := #[.val (.ref a1), .val (.int i1), .val (.int i2), .val (.double d1), .second, .val (.int i3), .val (.int t1)]) rfl ?_
  refine g_iload X1 hx hby d3_6 (pc' := 8) rfl rfl ?_
  refine g_aloadN X1 hx hby d3_8 (pc' := 9) rfl rfl rfl ?_
  refine g_getf X1 hx hby hZ hown (host := "") (Or.inl (wi hw 11 rfl)) Via.refl e1 P3 d3_9 (pc' := 12) rfl ?_
  intro T2 X2 e2
  refine Go.alen X2 hx hZ e2 P9 (z := (4 : Int32)) rfl (hb hby d3_12) (pc' := 13) rfl ?_
  have hc13 : ¬ (t1.toInt = (4 : Int)) := by omega
  refine g_icmpYes X2 hx hby d3_13 (pc' := 25) (feq (show ¬ (t1 = (4 : Int32)) from fun q => hc13 (congrArg Int32.toInt q))).2 (by decide) (by decide) ?_
  refine g_aloadN X2 hx hby d3_25 (pc' := 26) rfl rfl rfl ?_
  refine g_getf X2 hx hby hZ hown (host := "") (Or.inl (wi hw 11 rfl)) Via.refl e2 P3 d3_26 (pc' := 29) rfl ?_
  intro T3 X3 e3
  refine g_iload X3 hx hby d3_29 (pc' := 31) rfl rfl ?_
  refine g_iloadN X3 hx hby d3_31 (pc' := 32) rfl rfl ?_
  refine Go.iastore X3 hx hZ e3 P9 (k := k1) hk hbd (hb hby d3_32) (pc' := 33) rfl ?_
  intro T4 h4 X4 e4 W4 V4
  refine g_aloadN X4 hx hby d3_33 (pc' := 34) rfl rfl rfl ?_
  have f5 := (P4.other W4 (Or.inl (Ne.symm ne_x1_a1)))
  refine g_getf X4 hx hby hZ hown (host := "") (Or.inl (wi hw 13 rfl)) Via.refl e4 f5 d3_34 (pc' := 37) rfl ?_
  intro T6 X6 e6
  refine g_iload X6 hx hby d3_37 (pc' := 39) rfl rfl ?_
  refine g_iloadN X6 hx hby d3_39 (pc' := 40) rfl rfl ?_
  have f7 := (P10.other W4 (Ne.symm ne_x1_x2))
  refine Go.iastore X6 hx hZ e6 f7 (k := k1) hk hbd (hb hby d3_40) (pc' := 41) rfl ?_
  intro T8 h8 X8 e8 W8 V8
  refine g_aloadN X8 hx hby d3_41 (pc' := 42) rfl rfl rfl ?_
  have f9 := ((P7.other W4 (Or.inl (Ne.symm ne_x1_a1))).other W8 (Or.inl (Ne.symm ne_x2_a1)))
  refine g_getf X8 hx hby hZ hown (host := "") (Or.inl (wi hw 20 rfl)) Via.refl e8 f9 d3_42 (pc' := 45) rfl ?_
  intro T10 X10 e10
  refine g_iload X10 hx hby d3_45 (pc' := 47) rfl rfl ?_
  refine g_dloadN X10 hx hby d3_47 (pc' := 48) rfl rfl ?_
  have f11 := ((P11.other W4 (Ne.symm ne_x1_x5)).other W8 (Ne.symm ne_x2_x5))
  refine Go.dastore X10 hx hZ e10 f11 (k := k1) hk hbd (hb hby d3_48) (pc' := 49) rfl ?_
  intro T12 h12 X12 e12 W12 V12
  refine g_aloadN X12 hx hby d3_49 (pc' := 50) rfl rfl rfl ?_
  have f13 := (((P1.other W4 (Or.inl (Ne.symm ne_x1_a1))).other W8 (Or.inl (Ne.symm ne_x2_a1))).other W12 (Or.inl (Ne.symm ne_x5_a1)))
  refine g_getf X12 hx hby hZ hown (host := "") (Or.inl (wi hw 27 rfl)) Via.refl e12 f13 d3_50 (pc' := 53) rfl ?_
  intro T14 X14 e14
  have hc53 : (0 : Int) = (0 : Int) := by decide
  refine g_ifYes X14 hx hby d3_53 (pc' := 65) (teq (show (0 : Int32) = (0 : Int32) from Int32.toInt_inj.mp hc53)).1 (by decide) (by decide) ?_
  refine g_aloadN X14 hx hby d3_65 (pc' := 66) rfl rfl rfl ?_
  refine g_iload X14 hx hby d3_66 (pc' := 68) rfl rfl ?_
  refine g_iconst X14 hx hby d3_68 (pc' := 69) rfl (z := (1 : Int32)) rfl ?_
  refine g_iadd X14 hx hby d3_69 (pc' := 70) rfl rfl ?_
  have f15 := (((P12.other W4 (Or.inl (Ne.symm ne_x1_a1))).other W8 (Or.inl (Ne.symm ne_x2_a1))).other W12 (Or.inl (Ne.symm ne_x5_a1)))
  have f16 := (((P0.wr W4).wr W8).wr W12)
  refine g_putf X14 hx hby hZ hown (host := "") (Or.inl (wi hw 34 rfl)) Via.refl e14 f15 f16 (Or.inl (wi hw 35 rfl)) (wi hw 2 rfl) (ty := .int) (by decide) rfl rfl d3_70 (pc' := 73) rfl ?_
  intro T17 h17 X17 e17 W17 F17
  have z18 : n0 ≤ h17.size := (Nat.le_trans (Nat.le_trans (Nat.le_trans (Nat.le_trans Z0 (Nat.le_of_eq (Wr.size W4).symm)) (Nat.le_of_eq (Wr.size W8).symm)) (Nat.le_of_eq (Wr.size W12).symm)) (Nat.le_of_eq (Wr.size W17).symm))
  have K19 : Keep h0 h17 [a1, x1, x2, x5] := ((((K0.wr W4 (Or.inl (List.mem_of_getElem? (i := 1) rfl))).wr W8 (Or.inl (List.mem_of_getElem? (i := 2) rfl))).wr W12 (Or.inl (List.mem_of_getElem? (i := 3) rfl))).wr W17 (Or.inl (List.mem_of_getElem? (i := 0) rfl)))
  refine g_aloadN X17 hx hby d3_73 (pc' := 74) rfl rfl rfl ?_
  refine g_dup X17 hx hby d3_74 (pc' := 75) rfl rfl ?_
  have f20 := ((((P13.other W4 (Or.inl (Ne.symm ne_x1_a1))).other W8 (Or.inl (Ne.symm ne_x2_a1))).other W12 (Or.inl (Ne.symm ne_x5_a1))).other W17 (Or.inr (slot_ne (Or.inl (wi hw 70 rfl)) (Or.inl (wi hw 35 rfl)) (by decide) (t := .int) (t' := .int) (by decide) (by decide))))
  refine g_getf X17 hx hby hZ hown (host := "") (Or.inl (wi hw 69 rfl)) Via.refl e17 f20 d3_75 (pc' := 78) rfl ?_
  intro T21 X21 e21
  refine g_iconst X21 hx hby d3_78 (pc' := 79) rfl (z := (1 : Int32)) rfl ?_
  refine g_iadd X21 hx hby d3_79 (pc' := 80) rfl rfl ?_
  have f22 := f16.wr W17
  refine g_putf X21 hx hby hZ hown (host := "") (Or.inl (wi hw 69 rfl)) Via.refl e21 f20 f22 (Or.inl (wi hw 70 rfl)) (wi hw 2 rfl) (ty := .int) (by decide) rfl rfl d3_80 (pc' := 83) rfl ?_
  intro T23 h23 X23 e23 W23 F23
  refine g_aloadN X23 hx hby d3_83 (pc' := 84) rfl rfl rfl ?_
  refine g_dup X23 hx hby d3_84 (pc' := 85) rfl rfl ?_
  have f24 := (((((P14.other W4 (Or.inl (Ne.symm ne_x1_a1))).other W8 (Or.inl (Ne.symm ne_x2_a1))).other W12 (Or.inl (Ne.symm ne_x5_a1))).other W17 (Or.inr (slot_ne (Or.inl (wi hw 72 rfl)) (Or.inl (wi hw 35 rfl)) (by decide) (t := .long) (t' := .int) (by decide) (by decide)))).other W23 (Or.inr (slot_ne (Or.inl (wi hw 72 rfl)) (Or.inl (wi hw 70 rfl)) (by decide) (t := .long) (t' := .int) (by decide) (by decide))))
  refine g_getf X23 hx hby hZ hown (host := "") (Or.inl (wi hw 71 rfl)) Via.refl e23 f24 d3_85 (pc' := 88) rfl ?_
  intro T25 X25 e25
  refine Go.of (fun _ k => XS.lconst X25.here hx rfl (hb hby d3_88) k) ?_
  show Go p.tables e below s _ _ _ (T25.setTop (mkF m 89 #[.val (.ref a1), .val (.int i1), .val (.int i2), .val (.double d1), .second, .val (.int i3), .val (.int t1)] [(.long (1 : Int64)), (.long u1), (.ref a1)]))
  refine g_ladd X25 hx hby d3_89 (pc' := 90) rfl rfl ?_
  have f26 := f22.wr W23
  refine g_putf X25 hx hby hZ hown (host := "") (Or.inl (wi hw 71 rfl)) Via.refl e25 f24 f26 (Or.inl (wi hw 72 rfl)) (wi hw 2 rfl) (ty := .long) (by decide) rfl rfl d3_90 (pc' := 93) rfl ?_
  intro T27 h27 X27 e27 W27 F27
  refine g_iload X27 hx hby d3_93 (pc' := 95) rfl rfl ?_
  refine Go.retI X27 hx hlk hret (hb hby d3_95) (by decide) (by decide) ?_
  rw [e27]
  have f28 := (((f13.other W17 (Or.inr (slot_ne (Or.inr (wi hw 28 rfl)) (Or.inl (wi hw 35 rfl)) (by decide) (t := .boolean) (t' := .int) (by decide) (by decide)))).other W23 (Or.inr (slot_ne (Or.inr (wi hw 28 rfl)) (Or.inl (wi hw 70 rfl)) (by decide) (t := .boolean) (t' := .int) (by decide) (by decide)))).other W27 (Or.inr (slot_ne (Or.inr (wi hw 28 rfl)) (Or.inl (wi hw 72 rfl)) (by decide) (t := .boolean) (t' := .long) (by decide) (by decide))))
  have f29 := ((((((P2.other W4 (Or.inl (Ne.symm ne_x1_a1))).other W8 (Or.inl (Ne.symm ne_x2_a1))).other W12 (Or.inl (Ne.symm ne_x5_a1))).other W17 (Or.inr (slot_ne (Or.inl (wi hw 26 rfl)) (Or.inl (wi hw 35 rfl)) (by decide) (t := (.array .long)) (t' := .int) (by decide) (by decide)))).other W23 (Or.inr (slot_ne (Or.inl (wi hw 26 rfl)) (Or.inl (wi hw 70 rfl)) (by decide) (t := (.array .long)) (t' := .int) (by decide) (by decide)))).other W27 (Or.inr (slot_ne (Or.inl (wi hw 26 rfl)) (Or.inl (wi hw 72 rfl)) (by decide) (t := (.array .long)) (t' := .long) (by decide) (by decide))))
  have f30 := ((((((P3.other W4 (Or.inl (Ne.symm ne_x1_a1))).other W8 (Or.inl (Ne.symm ne_x2_a1))).other W12 (Or.inl (Ne.symm ne_x5_a1))).other W17 (Or.inr (slot_ne (Or.inl (wi hw 12 rfl)) (Or.inl (wi hw 35 rfl)) (by decide) (t := (.array .int)) (t' := .int) (by decide) (by decide)))).other W23 (Or.inr (slot_ne (Or.inl (wi hw 12 rfl)) (Or.inl (wi hw 70 rfl)) (by decide) (t := (.array .int)) (t' := .int) (by decide) (by decide)))).other W27 (Or.inr (slot_ne (Or.inl (wi hw 12 rfl)) (Or.inl (wi hw 72 rfl)) (by decide) (t := (.array .int)) (t' := .long) (by decide) (by decide))))
  have f31 := (((((f5.other W8 (Or.inl (Ne.symm ne_x2_a1))).other W12 (Or.inl (Ne.symm ne_x5_a1))).other W17 (Or.inr (slot_ne (Or.inl (wi hw 14 rfl)) (Or.inl (wi hw 35 rfl)) (by decide) (t := (.array .int)) (t' := .int) (by decide) (by decide)))).other W23 (Or.inr (slot_ne (Or.inl (wi hw 14 rfl)) (Or.inl (wi hw 70 rfl)) (by decide) (t := (.array .int)) (t' := .int) (by decide) (by decide)))).other W27 (Or.inr (slot_ne (Or.inl (wi hw 14 rfl)) (Or.inl (wi hw 72 rfl)) (by decide) (t := (.array .int)) (t' := .long) (by decide) (by decide))))
  have f32 := ((((((P5.other W4 (Or.inl (Ne.symm ne_x1_a1))).other W8 (Or.inl (Ne.symm ne_x2_a1))).other W12 (Or.inl (Ne.symm ne_x5_a1))).other W17 (Or.inr (slot_ne (Or.inl (wi hw 16 rfl)) (Or.inl (wi hw 35 rfl)) (by decide) (t := (.array .int)) (t' := .int) (by decide) (by decide)))).other W23 (Or.inr (slot_ne (Or.inl (wi hw 16 rfl)) (Or.inl (wi hw 70 rfl)) (by decide) (t := (.array .int)) (t' := .int) (by decide) (by decide)))).other W27 (Or.inr (slot_ne (Or.inl (wi hw 16 rfl)) (Or.inl (wi hw 72 rfl)) (by decide) (t := (.array .int)) (t' := .long) (by decide) (by decide))))
  have f33 := ((((((P6.other W4 (Or.inl (Ne.symm ne_x1_a1))).other W8 (Or.inl (Ne.symm ne_x2_a1))).other W12 (Or.inl (Ne.symm ne_x5_a1))).other W17 (Or.inr (slot_ne (Or.inl (wi hw 18 rfl)) (Or.inl (wi hw 35 rfl)) (by decide) (t := (.array .int)) (t' := .int) (by decide) (by decide)))).other W23 (Or.inr (slot_ne (Or.inl (wi hw 18 rfl)) (Or.inl (wi hw 70 rfl)) (by decide) (t := (.array .int)) (t' := .int) (by decide) (by decide)))).other W27 (Or.inr (slot_ne (Or.inl (wi hw 18 rfl)) (Or.inl (wi hw 72 rfl)) (by decide) (t := (.array .int)) (t' := .long) (by decide) (by decide))))
  have f34 := ((((f9.other W12 (Or.inl (Ne.symm ne_x5_a1))).other W17 (Or.inr (slot_ne (Or.inl (wi hw 21 rfl)) (Or.inl (wi hw 35 rfl)) (by decide) (t := (.array .double)) (t' := .int) (by decide) (by decide)))).other W23 (Or.inr (slot_ne (Or.inl (wi hw 21 rfl)) (Or.inl (wi hw 70 rfl)) (by decide) (t := (.array .double)) (t' := .int) (by decide) (by decide)))).other W27 (Or.inr (slot_ne (Or.inl (wi hw 21 rfl)) (Or.inl (wi hw 72 rfl)) (by decide) (t := (.array .double)) (t' := .long) (by decide) (by decide))))
  have f35 := ((((((P8.other W4 (Or.inl (Ne.symm ne_x1_a1))).other W8 (Or.inl (Ne.symm ne_x2_a1))).other W12 (Or.inl (Ne.symm ne_x5_a1))).other W17 (Or.inr (slot_ne (Or.inl (wi hw 23 rfl)) (Or.inl (wi hw 35 rfl)) (by decide) (t := (.array .int)) (t' := .int) (by decide) (by decide)))).other W23 (Or.inr (slot_ne (Or.inl (wi hw 23 rfl)) (Or.inl (wi hw 70 rfl)) (by decide) (t := (.array .int)) (t' := .int) (by decide) (by decide)))).other W27 (Or.inr (slot_ne (Or.inl (wi hw 23 rfl)) (Or.inl (wi hw 72 rfl)) (by decide) (t := (.array .int)) (t' := .long) (by decide) (by decide))))
  have f36 := ((F17.other W23 (Or.inr (slot_ne (Or.inl (wi hw 35 rfl)) (Or.inl (wi hw 70 rfl)) (by decide) (t := .int) (t' := .int) (by decide) (by decide)))).other W27 (Or.inr (slot_ne (Or.inl (wi hw 35 rfl)) (Or.inl (wi hw 72 rfl)) (by decide) (t := .int) (t' := .long) (by decide) (by decide))))
  have f37 := (F23.other W27 (Or.inr (slot_ne (Or.inl (wi hw 70 rfl)) (Or.inl (wi hw 72 rfl)) (by decide) (t := .int) (t' := .long) (by decide) (by decide))))
  have f38 := (((((V4.other W8 ne_x1_x2).other W12 ne_x1_x5).other W17 ne_x1_a1).other W23 ne_x1_a1).other W27 ne_x1_a1)
  have f39 := ((((V8.other W12 ne_x2_x5).other W17 ne_x2_a1).other W23 ne_x2_a1).other W27 ne_x2_a1)
  have f40 := (((V12.other W17 ne_x5_a1).other W23 ne_x5_a1).other W27 ne_x5_a1)
  exact ⟨rfl, (Fr.snoc X27 (Fr.snoc X23 (Fr.snoc X17 (Fr.snoc X12 (Fr.snoc X8 (Fr.snoc X4 N0 ge_x1) ge_x2) ge_x5) ge_a1) ge_a1) ge_a1), ((K19.wr W23 (Or.inl (List.mem_of_getElem? (i := 0) rfl))).wr W27 (Or.inl (List.mem_of_getElem? (i := 0) rfl))), f28, f29, f30, f31, f32, f33, f34, f35, f36, f37, F27, f38, f39, f40⟩
theorem d7_67 : decode prog_12_method_22_code 67 = .ok (.aload_n 0, 1) := by decide +kernel
theorem d7_68 : decode prog_12_method_22_code 68 = .ok (.aload_n 0, 1) := by decide +kernel
theorem d7_69 : decode prog_12_method_22_code 69 = .ok (.getfield 26, 3) := by decide +kernel
theorem d7_72 : decode prog_12_method_22_code 72 = .ok (.iload_n 1, 1) := by decide +kernel
theorem d7_73 : decode prog_12_method_22_code 73 = .ok (.invokestatic 87, 3) := by decide +kernel
theorem d7_76 : decode prog_12_method_22_code 76 = .ok (.putfield 26, 3) := by decide +kernel
theorem ef_rm_resize1 (m : MethodId) (x0 : Addr) : entryFrame m #[(.ref x0), (.int (4 : Int32))] 2 = mkF m 0 #[.val (.ref x0), .val (.int (4 : Int32))] [] := by first | (simp [entryFrame, mkF, argsToLocals, Value.category]; done) | rfl
set_option maxRecDepth 65536 in
set_option maxHeartbeats 40000000 in
theorem rm_resize1 (l : Launch) (Z : State) (a0 : Array Value) (hw : ∀ d ∈ tables_1, d.before a0 Z = true) (a1 : Addr) (x1 : Addr) (x2 : Addr) (x3 : Addr) (x4 : Addr) (x5 : Addr) (x6 : Addr) (x7 : Addr) (g1 : Nat → Int32) (g2 : Nat → Int32) (g3 : Nat → Int32) (g4 : Nat → Int32) (g5 : Nat → UInt64) (g6 : Nat → Int32) (t1 : Int32) (t2 : Int32) (u1 : Int64) (h0 : Heap) (n0 : Nat) (Z0 : n0 ≤ h0.size) (P0 : Exa Z h0 a1 "com/example/edgewise/edgewise/EdgeSlots") (P1 : Fld Z h0 a1 "com/example/edgewise/edgewise/EdgeSlots" "keyed" "Z" (.int (1 : Int32))) (P2 : Fld Z h0 a1 "com/example/edgewise/edgewise/EdgeSlots" "keptNumbers" "[J" (.ref x7)) (P3 : Fld Z h0 a1 "com/example/edgewise/edgewise/EdgeSlots" "sources" "[I" (.ref x1)) (P4 : Fld Z h0 a1 "com/example/edgewise/edgewise/EdgeSlots" "targets" "[I" (.ref x2)) (P5 : Fld Z h0 a1 "com/example/edgewise/edgewise/EdgeSlots" "sourcePositions" "[I" (.ref x3)) (P6 : Fld Z h0 a1 "com/example/edgewise/edgewise/EdgeSlots" "targetPositions" "[I" (.ref x4)) (P7 : Fld Z h0 a1 "com/example/edgewise/edgewise/EdgeSlots" "weights" "[D" (.ref x5)) (P8 : Fld Z h0 a1 "com/example/edgewise/edgewise/EdgeSlots" "keys" "[I" (.ref x6)) (P9 : ArF Z h0 x1 .int 0 (fun i => .int (g1 i))) (P10 : ArF Z h0 x2 .int 0 (fun i => .int (g2 i))) (P11 : ArF Z h0 x3 .int 0 (fun i => .int (g3 i))) (P12 : ArF Z h0 x4 .int 0 (fun i => .int (g4 i))) (P13 : ArF Z h0 x5 .double 0 (fun i => .double (g5 i))) (P14 : ArF Z h0 x6 .int 0 (fun i => .int (g6 i))) (P15 : Fld Z h0 a1 "com/example/edgewise/edgewise/EdgeSlots" "bound" "I" (.int t1)) (P16 : Fld Z h0 a1 "com/example/edgewise/edgewise/EdgeSlots" "count" "I" (.int t2)) (P17 : Fld Z h0 a1 "com/example/edgewise/edgewise/EdgeSlots" "nextNumber" "J" (.long u1)) (ne_x1_a1 : x1 ≠ a1) (ne_x2_a1 : x2 ≠ a1) (ne_x3_a1 : x3 ≠ a1) (ne_x4_a1 : x4 ≠ a1) (ne_x5_a1 : x5 ≠ a1) (ne_x6_a1 : x6 ≠ a1) (ge_a1 : n0 ≤ a1) :
    Con l Z (⟨"com/example/edgewise/edgewise/EdgeSlots", "resize", "(I)V"⟩ : MethodName) prog_12_method_22_code 2 none ({ frames := 2, cells := 6, slots := 24, locals := 55 } : Room) #[(.ref a1), (.int (4 : Int32))] h0 (fun v h L => ∃ (b1 : Addr) (b2 : Addr) (b3 : Addr) (b4 : Addr) (b5 : Addr) (b6 : Addr), v = none ∧ Fr n0 L ∧ Keep h0 h [a1] ∧ n0 ≤ b1 ∧ h0.size ≤ b1 ∧ n0 ≤ b2 ∧ h0.size ≤ b2 ∧ n0 ≤ b3 ∧ h0.size ≤ b3 ∧ n0 ≤ b4 ∧ h0.size ≤ b4 ∧ n0 ≤ b5 ∧ h0.size ≤ b5 ∧ n0 ≤ b6 ∧ h0.size ≤ b6 ∧ b1 ≠ b2 ∧ b1 ≠ b3 ∧ b1 ≠ b4 ∧ b1 ≠ b5 ∧ b1 ≠ b6 ∧ b2 ≠ b3 ∧ b2 ≠ b4 ∧ b2 ≠ b5 ∧ b2 ≠ b6 ∧ b3 ≠ b4 ∧ b3 ≠ b5 ∧ b3 ≠ b6 ∧ b4 ≠ b5 ∧ b4 ≠ b6 ∧ b5 ≠ b6 ∧ Fld Z h a1 "com/example/edgewise/edgewise/EdgeSlots" "keyed" "Z" (.int (1 : Int32)) ∧ Fld Z h a1 "com/example/edgewise/edgewise/EdgeSlots" "keptNumbers" "[J" (.ref x7) ∧ Fld Z h a1 "com/example/edgewise/edgewise/EdgeSlots" "sources" "[I" (.ref b1) ∧ Fld Z h a1 "com/example/edgewise/edgewise/EdgeSlots" "targets" "[I" (.ref b2) ∧ Fld Z h a1 "com/example/edgewise/edgewise/EdgeSlots" "sourcePositions" "[I" (.ref b3) ∧ Fld Z h a1 "com/example/edgewise/edgewise/EdgeSlots" "targetPositions" "[I" (.ref b4) ∧ Fld Z h a1 "com/example/edgewise/edgewise/EdgeSlots" "weights" "[D" (.ref b5) ∧ Fld Z h a1 "com/example/edgewise/edgewise/EdgeSlots" "keys" "[I" (.ref b6) ∧ Fld Z h a1 "com/example/edgewise/edgewise/EdgeSlots" "bound" "I" (.int t1) ∧ Fld Z h a1 "com/example/edgewise/edgewise/EdgeSlots" "count" "I" (.int t2) ∧ Fld Z h a1 "com/example/edgewise/edgewise/EdgeSlots" "nextNumber" "J" (.long u1) ∧ ArF Z h b1 .int 4 (fun i => .int ((fun _ => (0 : Int32)) i)) ∧ ArF Z h b2 .int 4 (fun i => .int ((fun _ => (0 : Int32)) i)) ∧ ArF Z h b3 .int 4 (fun i => .int ((fun _ => (0 : Int32)) i)) ∧ ArF Z h b4 .int 4 (fun i => .int ((fun _ => (0 : Int32)) i)) ∧ ArF Z h b5 .double 4 (fun i => .double ((fun _ => (0 : UInt64)) i)) ∧ ArF Z h b6 .int 4 (fun i => .int ((fun _ => (0 : Int32)) i))) := by
  refine meet (y := (⟨"com/example/edgewise/edgewise/EdgeSlots", "resize", "(I)V"⟩ : MethodName)) (Q := fun v h L => ∃ (b1 : Addr) (b2 : Addr) (b3 : Addr) (b4 : Addr) (b5 : Addr) (b6 : Addr), v = none ∧ Fr n0 L ∧ Keep h0 h [a1] ∧ n0 ≤ b1 ∧ h0.size ≤ b1 ∧ n0 ≤ b2 ∧ h0.size ≤ b2 ∧ n0 ≤ b3 ∧ h0.size ≤ b3 ∧ n0 ≤ b4 ∧ h0.size ≤ b4 ∧ n0 ≤ b5 ∧ h0.size ≤ b5 ∧ n0 ≤ b6 ∧ h0.size ≤ b6 ∧ b1 ≠ b2 ∧ b1 ≠ b3 ∧ b1 ≠ b4 ∧ b1 ≠ b5 ∧ b1 ≠ b6 ∧ b2 ≠ b3 ∧ b2 ≠ b4 ∧ b2 ≠ b5 ∧ b2 ≠ b6 ∧ b3 ≠ b4 ∧ b3 ≠ b5 ∧ b3 ≠ b6 ∧ b4 ≠ b5 ∧ b4 ≠ b6 ∧ b5 ≠ b6 ∧ Fld Z h a1 "com/example/edgewise/edgewise/EdgeSlots" "keyed" "Z" (.int (1 : Int32)) ∧ Fld Z h a1 "com/example/edgewise/edgewise/EdgeSlots" "keptNumbers" "[J" (.ref x7) ∧ Fld Z h a1 "com/example/edgewise/edgewise/EdgeSlots" "sources" "[I" (.ref b1) ∧ Fld Z h a1 "com/example/edgewise/edgewise/EdgeSlots" "targets" "[I" (.ref b2) ∧ Fld Z h a1 "com/example/edgewise/edgewise/EdgeSlots" "sourcePositions" "[I" (.ref b3) ∧ Fld Z h a1 "com/example/edgewise/edgewise/EdgeSlots" "targetPositions" "[I" (.ref b4) ∧ Fld Z h a1 "com/example/edgewise/edgewise/EdgeSlots" "weights" "[D" (.ref b5) ∧ Fld Z h a1 "com/example/edgewise/edgewise/EdgeSlots" "keys" "[I" (.ref b6) ∧ Fld Z h a1 "com/example/edgewise/edgewise/EdgeSlots" "bound" "I" (.int t1) ∧ Fld Z h a1 "com/example/edgewise/edgewise/EdgeSlots" "count" "I" (.int t2) ∧ Fld Z h a1 "com/example/edgewise/edgewise/EdgeSlots" "nextNumber" "J" (.long u1) ∧ ArF Z h b1 .int 4 (fun i => .int ((fun _ => (0 : Int32)) i)) ∧ ArF Z h b2 .int 4 (fun i => .int ((fun _ => (0 : Int32)) i)) ∧ ArF Z h b3 .int 4 (fun i => .int ((fun _ => (0 : Int32)) i)) ∧ ArF Z h b4 .int 4 (fun i => .int ((fun _ => (0 : Int32)) i)) ∧ ArF Z h b5 .double 4 (fun i => .double ((fun _ => (0 : UInt64)) i)) ∧ ArF Z h b6 .int 4 (fun i => .int ((fun _ => (0 : Int32)) i))) (plainFor_of_name pn_com_example_edgewise_edgewise_EdgeSlots) (fun m => ef_rm_resize1 m a1) ?_
  intro p e s m below meth c T0 hx hby hml hZ hown hnm hret hlk X0 e0
  have N0 := Fr.nil n0
  have K0 := Keep.refl h0 [a1]
  refine g_aloadN X0 hx hby d7_0 (pc' := 1) rfl rfl rfl ?_
  refine g_aloadN X0 hx hby d7_1 (pc' := 2) rfl rfl rfl ?_
  refine g_getf X0 hx hby hZ hown (host := "") (Or.inl (wi hw 11 rfl)) Via.refl e0 P3 d7_2 (pc' := 5) rfl ?_
  intro T1 X1 e1
  refine g_iloadN X1 hx hby d7_5 (pc' := 6) rfl rfl ?_
  refine Go.callS X1 hx hZ hown (wi hw 55 rfl) (wi hw 56 rfl) (wi hw 57 rfl) (wi hw 58 rfl) (by decide) e1 (argsL := [(.ref x1), (.int (4 : Int32))]) (rest := [(.ref a1)]) (W := 1) (rm_copyI l Z a0 hw x1 g1 h0 n0 Z0 P9) (hb hby d7_6) (by rw [hml]; rfl) rfl pd2 rfl rfl (by decide) (by decide) (by decide) (by decide) ?_
  intro v2 T2 L2 X2 hQ2
  obtain ⟨h2, e2⟩ : ∃ z, T2.heap = z := ⟨_, rfl⟩
  rw [e2] at hQ2
  obtain ⟨b1_2, rfl, Nq2, Kq2, gqb1_2, sqb1_2, Fq0_2⟩ := hQ2
  have N2 := Fr.app N0 Nq2
  have s3 : h0.size ≤ b1_2 := Nat.le_trans K0.1 sqb1_2
  refine Go.push (pc' := 9) rfl ?_
  have f4 := P3.keep Kq2 nin0
  have f5 := P0.keep Kq2
  refine g_putf X2 hx hby hZ hown (host := "") (Or.inl (wi hw 11 rfl)) Via.refl e2 f4 f5 (Or.inl (wi hw 12 rfl)) (wi hw 2 rfl) (ty := (.array .int)) (by decide) rfl rfl d7_9 (pc' := 12) rfl ?_
  intro T6 h6 X6 e6 W6 F6
  refine g_aloadN X6 hx hby d7_12 (pc' := 13) rfl rfl rfl ?_
  refine g_aloadN X6 hx hby d7_13 (pc' := 14) rfl rfl rfl ?_
  have f7 := ((P4.keep Kq2 nin0).other W6 (Or.inr (slot_ne (Or.inl (wi hw 14 rfl)) (Or.inl (wi hw 12 rfl)) (by decide) (t := (.array .int)) (t' := (.array .int)) (by decide) (by decide))))
  refine g_getf X6 hx hby hZ hown (host := "") (Or.inl (wi hw 13 rfl)) Via.refl e6 f7 d7_14 (pc' := 17) rfl ?_
  intro T8 X8 e8
  refine g_iloadN X8 hx hby d7_17 (pc' := 18) rfl rfl ?_
  have f10 := ((P10.keep Kq2 nin0).other W6 ne_x2_a1)
  refine Go.callS X8 hx hZ hown (wi hw 55 rfl) (wi hw 56 rfl) (wi hw 57 rfl) (wi hw 58 rfl) (by decide) e8 (argsL := [(.ref x2), (.int (4 : Int32))]) (rest := [(.ref a1)]) (W := 1) (rm_copyI l Z a0 hw x2 g2 h6 n0 (Nat.le_trans (Nat.le_trans Z0 Kq2.1) (Nat.le_of_eq (Wr.size W6).symm)) f10) (hb hby d7_18) (by rw [hml]; rfl) rfl pd2 rfl rfl (by decide) (by decide) (by decide) (by decide) ?_
  intro v9 T9 L9 X9 hQ9
  obtain ⟨h9, e9⟩ : ∃ z, T9.heap = z := ⟨_, rfl⟩
  rw [e9] at hQ9
  obtain ⟨b1_9, rfl, Nq9, Kq9, gqb1_9, sqb1_9, Fq0_9⟩ := hQ9
  have N9 := Fr.app (Fr.snoc X6 N2 ge_a1) Nq9
  have s11 : h0.size ≤ b1_9 := Nat.le_trans ((K0.trans Kq2 all0).wr W6 (Or.inl (List.mem_of_getElem? (i := 0) rfl))).1 sqb1_9
  refine Go.push (pc' := 21) rfl ?_
  have f12 := f7.keep Kq9 nin0
  have f13 := ((f5.wr W6).keep Kq9)
  refine g_putf X9 hx hby hZ hown (host := "") (Or.inl (wi hw 13 rfl)) Via.refl e9 f12 f13 (Or.inl (wi hw 14 rfl)) (wi hw 2 rfl) (ty := (.array .int)) (by decide) rfl rfl d7_21 (pc' := 24) rfl ?_
  intro T14 h14 X14 e14 W14 F14
  refine g_aloadN X14 hx hby d7_24 (pc' := 25) rfl rfl rfl ?_
  refine g_aloadN X14 hx hby d7_25 (pc' := 26) rfl rfl rfl ?_
  have f15 := ((((P5.keep Kq2 nin0).other W6 (Or.inr (slot_ne (Or.inl (wi hw 16 rfl)) (Or.inl (wi hw 12 rfl)) (by decide) (t := (.array .int)) (t' := (.array .int)) (by decide) (by decide)))).keep Kq9 nin0).other W14 (Or.inr (slot_ne (Or.inl (wi hw 16 rfl)) (Or.inl (wi hw 14 rfl)) (by decide) (t := (.array .int)) (t' := (.array .int)) (by decide) (by decide))))
  refine g_getf X14 hx hby hZ hown (host := "") (Or.inl (wi hw 15 rfl)) Via.refl e14 f15 d7_26 (pc' := 29) rfl ?_
  intro T16 X16 e16
  refine g_iloadN X16 hx hby d7_29 (pc' := 30) rfl rfl ?_
  have f18 := ((((P11.keep Kq2 nin0).other W6 ne_x3_a1).keep Kq9 nin0).other W14 ne_x3_a1)
  refine Go.callS X16 hx hZ hown (wi hw 55 rfl) (wi hw 56 rfl) (wi hw 57 rfl) (wi hw 58 rfl) (by decide) e16 (argsL := [(.ref x3), (.int (4 : Int32))]) (rest := [(.ref a1)]) (W := 1) (rm_copyI l Z a0 hw x3 g3 h14 n0 (Nat.le_trans (Nat.le_trans (Nat.le_trans (Nat.le_trans Z0 Kq2.1) (Nat.le_of_eq (Wr.size W6).symm)) Kq9.1) (Nat.le_of_eq (Wr.size W14).symm)) f18) (hb hby d7_30) (by rw [hml]; rfl) rfl pd2 rfl rfl (by decide) (by decide) (by decide) (by decide) ?_
  intro v17 T17 L17 X17 hQ17
  obtain ⟨h17, e17⟩ : ∃ z, T17.heap = z := ⟨_, rfl⟩
  rw [e17] at hQ17
  obtain ⟨b1_17, rfl, Nq17, Kq17, gqb1_17, sqb1_17, Fq0_17⟩ := hQ17
  have N17 := Fr.app (Fr.snoc X14 N9 ge_a1) Nq17
  have z19 : n0 ≤ h17.size := (Nat.le_trans (Nat.le_trans (Nat.le_trans (Nat.le_trans (Nat.le_trans Z0 Kq2.1) (Nat.le_of_eq (Wr.size W6).symm)) Kq9.1) (Nat.le_of_eq (Wr.size W14).symm)) Kq17.1)
  have s20 : h0.size ≤ b1_17 := Nat.le_trans ((((K0.trans Kq2 all0).wr W6 (Or.inl (List.mem_of_getElem? (i := 0) rfl))).trans Kq9 all0).wr W14 (Or.inl (List.mem_of_getElem? (i := 0) rfl))).1 sqb1_17
  refine Go.push (pc' := 33) rfl ?_
  have f21 := f15.keep Kq17 nin0
  have f22 := ((f13.wr W14).keep Kq17)
  refine g_putf X17 hx hby hZ hown (host := "") (Or.inl (wi hw 15 rfl)) Via.refl e17 f21 f22 (Or.inl (wi hw 16 rfl)) (wi hw 2 rfl) (ty := (.array .int)) (by decide) rfl rfl d7_33 (pc' := 36) rfl ?_
  intro T23 h23 X23 e23 W23 F23
  have K24 : Keep h0 h23 [a1] := ((((((K0.trans Kq2 all0).wr W6 (Or.inl (List.mem_of_getElem? (i := 0) rfl))).trans Kq9 all0).wr W14 (Or.inl (List.mem_of_getElem? (i := 0) rfl))).trans Kq17 all0).wr W23 (Or.inl (List.mem_of_getElem? (i := 0) rfl)))
  refine g_aloadN X23 hx hby d7_36 (pc' := 37) rfl rfl rfl ?_
  refine g_aloadN X23 hx hby d7_37 (pc' := 38) rfl rfl rfl ?_
  have f25 := ((((((P6.keep Kq2 nin0).other W6 (Or.inr (slot_ne (Or.inl (wi hw 18 rfl)) (Or.inl (wi hw 12 rfl)) (by decide) (t := (.array .int)) (t' := (.array .int)) (by decide) (by decide)))).keep Kq9 nin0).other W14 (Or.inr (slot_ne (Or.inl (wi hw 18 rfl)) (Or.inl (wi hw 14 rfl)) (by decide) (t := (.array .int)) (t' := (.array .int)) (by decide) (by decide)))).keep Kq17 nin0).other W23 (Or.inr (slot_ne (Or.inl (wi hw 18 rfl)) (Or.inl (wi hw 16 rfl)) (by decide) (t := (.array .int)) (t' := (.array .int)) (by decide) (by decide))))
  refine g_getf X23 hx hby hZ hown (host := "") (Or.inl (wi hw 17 rfl)) Via.refl e23 f25 d7_38 (pc' := 41) rfl ?_
  intro T26 X26 e26
  refine g_iloadN X26 hx hby d7_41 (pc' := 42) rfl rfl ?_
  have f28 := ((((((P12.keep Kq2 nin0).other W6 ne_x4_a1).keep Kq9 nin0).other W14 ne_x4_a1).keep Kq17 nin0).other W23 ne_x4_a1)
  refine Go.callS X26 hx hZ hown (wi hw 55 rfl) (wi hw 56 rfl) (wi hw 57 rfl) (wi hw 58 rfl) (by decide) e26 (argsL := [(.ref x4), (.int (4 : Int32))]) (rest := [(.ref a1)]) (W := 1) (rm_copyI l Z a0 hw x4 g4 h23 n0 (Nat.le_trans z19 (Nat.le_of_eq (Wr.size W23).symm)) f28) (hb hby d7_42) (by rw [hml]; rfl) rfl pd2 rfl rfl (by decide) (by decide) (by decide) (by decide) ?_
  intro v27 T27 L27 X27 hQ27
  obtain ⟨h27, e27⟩ : ∃ z, T27.heap = z := ⟨_, rfl⟩
  rw [e27] at hQ27
  obtain ⟨b1_27, rfl, Nq27, Kq27, gqb1_27, sqb1_27, Fq0_27⟩ := hQ27
  have N27 := Fr.app (Fr.snoc X23 N17 ge_a1) Nq27
  have s29 : h0.size ≤ b1_27 := Nat.le_trans K24.1 sqb1_27
  refine Go.push (pc' := 45) rfl ?_
  have f30 := f25.keep Kq27 nin0
  have f31 := ((f22.wr W23).keep Kq27)
  refine g_putf X27 hx hby hZ hown (host := "") (Or.inl (wi hw 17 rfl)) Via.refl e27 f30 f31 (Or.inl (wi hw 18 rfl)) (wi hw 2 rfl) (ty := (.array .int)) (by decide) rfl rfl d7_45 (pc' := 48) rfl ?_
  intro T32 h32 X32 e32 W32 F32
  refine g_aloadN X32 hx hby d7_48 (pc' := 49) rfl rfl rfl ?_
  refine g_aloadN X32 hx hby d7_49 (pc' := 50) rfl rfl rfl ?_
  have f33 := ((((((((P7.keep Kq2 nin0).other W6 (Or.inr (slot_ne (Or.inl (wi hw 21 rfl)) (Or.inl (wi hw 12 rfl)) (by decide) (t := (.array .double)) (t' := (.array .int)) (by decide) (by decide)))).keep Kq9 nin0).other W14 (Or.inr (slot_ne (Or.inl (wi hw 21 rfl)) (Or.inl (wi hw 14 rfl)) (by decide) (t := (.array .double)) (t' := (.array .int)) (by decide) (by decide)))).keep Kq17 nin0).other W23 (Or.inr (slot_ne (Or.inl (wi hw 21 rfl)) (Or.inl (wi hw 16 rfl)) (by decide) (t := (.array .double)) (t' := (.array .int)) (by decide) (by decide)))).keep Kq27 nin0).other W32 (Or.inr (slot_ne (Or.inl (wi hw 21 rfl)) (Or.inl (wi hw 18 rfl)) (by decide) (t := (.array .double)) (t' := (.array .int)) (by decide) (by decide))))
  refine g_getf X32 hx hby hZ hown (host := "") (Or.inl (wi hw 20 rfl)) Via.refl e32 f33 d7_50 (pc' := 53) rfl ?_
  intro T34 X34 e34
  refine g_iloadN X34 hx hby d7_53 (pc' := 54) rfl rfl ?_
  have f36 := ((((((((P13.keep Kq2 nin0).other W6 ne_x5_a1).keep Kq9 nin0).other W14 ne_x5_a1).keep Kq17 nin0).other W23 ne_x5_a1).keep Kq27 nin0).other W32 ne_x5_a1)
  refine Go.callS X34 hx hZ hown (wi hw 66 rfl) (wi hw 67 rfl) (wi hw 57 rfl) (wi hw 68 rfl) (by decide) e34 (argsL := [(.ref x5), (.int (4 : Int32))]) (rest := [(.ref a1)]) (W := 1) (rm_copyD l Z a0 hw x5 g5 h32 n0 (Nat.le_trans (Nat.le_trans (Nat.le_trans z19 (Nat.le_of_eq (Wr.size W23).symm)) Kq27.1) (Nat.le_of_eq (Wr.size W32).symm)) f36) (hb hby d7_54) (by rw [hml]; rfl) rfl pd3 rfl rfl (by decide) (by decide) (by decide) (by decide) ?_
  intro v35 T35 L35 X35 hQ35
  obtain ⟨h35, e35⟩ : ∃ z, T35.heap = z := ⟨_, rfl⟩
  rw [e35] at hQ35
  obtain ⟨b1_35, rfl, Nq35, Kq35, gqb1_35, sqb1_35, Fq0_35⟩ := hQ35
  have N35 := Fr.app (Fr.snoc X32 N27 ge_a1) Nq35
  have s37 : h0.size ≤ b1_35 := Nat.le_trans ((K24.trans Kq27 all0).wr W32 (Or.inl (List.mem_of_getElem? (i := 0) rfl))).1 sqb1_35
  refine Go.push (pc' := 57) rfl ?_
  have f38 := f33.keep Kq35 nin0
  have f39 := ((f31.wr W32).keep Kq35)
  refine g_putf X35 hx hby hZ hown (host := "") (Or.inl (wi hw 20 rfl)) Via.refl e35 f38 f39 (Or.inl (wi hw 21 rfl)) (wi hw 2 rfl) (ty := (.array .double)) (by decide) rfl rfl d7_57 (pc' := 60) rfl ?_
  intro T40 h40 X40 e40 W40 F40
  have z41 : n0 ≤ h40.size := (Nat.le_trans (Nat.le_trans (Nat.le_trans (Nat.le_trans (Nat.le_trans z19 (Nat.le_of_eq (Wr.size W23).symm)) Kq27.1) (Nat.le_of_eq (Wr.size W32).symm)) Kq35.1) (Nat.le_of_eq (Wr.size W40).symm))
  refine g_aloadN X40 hx hby d7_60 (pc' := 61) rfl rfl rfl ?_
  have f42 := ((((((((((P1.keep Kq2 nin0).other W6 (Or.inr (slot_ne (Or.inr (wi hw 28 rfl)) (Or.inl (wi hw 12 rfl)) (by decide) (t := .boolean) (t' := (.array .int)) (by decide) (by decide)))).keep Kq9 nin0).other W14 (Or.inr (slot_ne (Or.inr (wi hw 28 rfl)) (Or.inl (wi hw 14 rfl)) (by decide) (t := .boolean) (t' := (.array .int)) (by decide) (by decide)))).keep Kq17 nin0).other W23 (Or.inr (slot_ne (Or.inr (wi hw 28 rfl)) (Or.inl (wi hw 16 rfl)) (by decide) (t := .boolean) (t' := (.array .int)) (by decide) (by decide)))).keep Kq27 nin0).other W32 (Or.inr (slot_ne (Or.inr (wi hw 28 rfl)) (Or.inl (wi hw 18 rfl)) (by decide) (t := .boolean) (t' := (.array .int)) (by decide) (by decide)))).keep Kq35 nin0).other W40 (Or.inr (slot_ne (Or.inr (wi hw 28 rfl)) (Or.inl (wi hw 21 rfl)) (by decide) (t := .boolean) (t' := (.array .double)) (by decide) (by decide))))
  refine g_getf X40 hx hby hZ hown (host := "") (Or.inl (wi hw 27 rfl)) Via.refl e40 f42 d7_61 (pc' := 64) rfl ?_
  intro T43 X43 e43
  have hc64 : ¬ ((1 : Int) = (0 : Int)) := by decide
  refine g_ifNo X43 hx hby d7_64 (pc' := 67) (feq (show ¬ ((1 : Int32) = (0 : Int32)) from fun q => hc64 (congrArg Int32.toInt q))).1 rfl ?_
  refine g_aloadN X43 hx hby d7_67 (pc' := 68) rfl rfl rfl ?_
  refine g_aloadN X43 hx hby d7_68 (pc' := 69) rfl rfl rfl ?_
  have f44 := ((((((((((P8.keep Kq2 nin0).other W6 (Or.inr (slot_ne (Or.inl (wi hw 23 rfl)) (Or.inl (wi hw 12 rfl)) (by decide) (t := (.array .int)) (t' := (.array .int)) (by decide) (by decide)))).keep Kq9 nin0).other W14 (Or.inr (slot_ne (Or.inl (wi hw 23 rfl)) (Or.inl (wi hw 14 rfl)) (by decide) (t := (.array .int)) (t' := (.array .int)) (by decide) (by decide)))).keep Kq17 nin0).other W23 (Or.inr (slot_ne (Or.inl (wi hw 23 rfl)) (Or.inl (wi hw 16 rfl)) (by decide) (t := (.array .int)) (t' := (.array .int)) (by decide) (by decide)))).keep Kq27 nin0).other W32 (Or.inr (slot_ne (Or.inl (wi hw 23 rfl)) (Or.inl (wi hw 18 rfl)) (by decide) (t := (.array .int)) (t' := (.array .int)) (by decide) (by decide)))).keep Kq35 nin0).other W40 (Or.inr (slot_ne (Or.inl (wi hw 23 rfl)) (Or.inl (wi hw 21 rfl)) (by decide) (t := (.array .int)) (t' := (.array .double)) (by decide) (by decide))))
  refine g_getf X43 hx hby hZ hown (host := "") (Or.inl (wi hw 22 rfl)) Via.refl e43 f44 d7_69 (pc' := 72) rfl ?_
  intro T45 X45 e45
  refine g_iloadN X45 hx hby d7_72 (pc' := 73) rfl rfl ?_
  have f47 := ((((((((((P14.keep Kq2 nin0).other W6 ne_x6_a1).keep Kq9 nin0).other W14 ne_x6_a1).keep Kq17 nin0).other W23 ne_x6_a1).keep Kq27 nin0).other W32 ne_x6_a1).keep Kq35 nin0).other W40 ne_x6_a1)
  refine Go.callS X45 hx hZ hown (wi hw 55 rfl) (wi hw 56 rfl) (wi hw 57 rfl) (wi hw 58 rfl) (by decide) e45 (argsL := [(.ref x6), (.int (4 : Int32))]) (rest := [(.ref a1)]) (W := 1) (rm_copyI l Z a0 hw x6 g6 h40 n0 z41 f47) (hb hby d7_73) (by rw [hml]; rfl) rfl pd2 rfl rfl (by decide) (by decide) (by decide) (by decide) ?_
  intro v46 T46 L46 X46 hQ46
  obtain ⟨h46, e46⟩ : ∃ z, T46.heap = z := ⟨_, rfl⟩
  rw [e46] at hQ46
  obtain ⟨b1_46, rfl, Nq46, Kq46, gqb1_46, sqb1_46, Fq0_46⟩ := hQ46
  have N46 := Fr.app (Fr.snoc X40 N35 ge_a1) Nq46
  have s48 : h0.size ≤ b1_46 := Nat.le_trans ((((K24.trans Kq27 all0).wr W32 (Or.inl (List.mem_of_getElem? (i := 0) rfl))).trans Kq35 all0).wr W40 (Or.inl (List.mem_of_getElem? (i := 0) rfl))).1 sqb1_46
  refine Go.push (pc' := 76) rfl ?_
  have f49 := f44.keep Kq46 nin0
  have f50 := ((f39.wr W40).keep Kq46)
  refine g_putf X46 hx hby hZ hown (host := "") (Or.inl (wi hw 22 rfl)) Via.refl e46 f49 f50 (Or.inl (wi hw 23 rfl)) (wi hw 2 rfl) (ty := (.array .int)) (by decide) rfl rfl d7_76 (pc' := 79) rfl ?_
  intro T51 h51 X51 e51 W51 F51
  have K52 : Keep h0 h51 [a1] := ((((((K24.trans Kq27 all0).wr W32 (Or.inl (List.mem_of_getElem? (i := 0) rfl))).trans Kq35 all0).wr W40 (Or.inl (List.mem_of_getElem? (i := 0) rfl))).trans Kq46 all0).wr W51 (Or.inl (List.mem_of_getElem? (i := 0) rfl)))
  refine Go.retV X51 hx hlk hret (hb hby d7_79) rfl (by decide) (by decide) ?_
  have f53 := ((((((((((F6.keep Kq9 nin0).other W14 (Or.inr (slot_ne (Or.inl (wi hw 12 rfl)) (Or.inl (wi hw 14 rfl)) (by decide) (t := (.array .int)) (t' := (.array .int)) (by decide) (by decide)))).keep Kq17 nin0).other W23 (Or.inr (slot_ne (Or.inl (wi hw 12 rfl)) (Or.inl (wi hw 16 rfl)) (by decide) (t := (.array .int)) (t' := (.array .int)) (by decide) (by decide)))).keep Kq27 nin0).other W32 (Or.inr (slot_ne (Or.inl (wi hw 12 rfl)) (Or.inl (wi hw 18 rfl)) (by decide) (t := (.array .int)) (t' := (.array .int)) (by decide) (by decide)))).keep Kq35 nin0).other W40 (Or.inr (slot_ne (Or.inl (wi hw 12 rfl)) (Or.inl (wi hw 21 rfl)) (by decide) (t := (.array .int)) (t' := (.array .double)) (by decide) (by decide)))).keep Kq46 nin0).other W51 (Or.inr (slot_ne (Or.inl (wi hw 12 rfl)) (Or.inl (wi hw 23 rfl)) (by decide) (t := (.array .int)) (t' := (.array .int)) (by decide) (by decide))))
  have f54 := ((((((((F14.keep Kq17 nin0).other W23 (Or.inr (slot_ne (Or.inl (wi hw 14 rfl)) (Or.inl (wi hw 16 rfl)) (by decide) (t := (.array .int)) (t' := (.array .int)) (by decide) (by decide)))).keep Kq27 nin0).other W32 (Or.inr (slot_ne (Or.inl (wi hw 14 rfl)) (Or.inl (wi hw 18 rfl)) (by decide) (t := (.array .int)) (t' := (.array .int)) (by decide) (by decide)))).keep Kq35 nin0).other W40 (Or.inr (slot_ne (Or.inl (wi hw 14 rfl)) (Or.inl (wi hw 21 rfl)) (by decide) (t := (.array .int)) (t' := (.array .double)) (by decide) (by decide)))).keep Kq46 nin0).other W51 (Or.inr (slot_ne (Or.inl (wi hw 14 rfl)) (Or.inl (wi hw 23 rfl)) (by decide) (t := (.array .int)) (t' := (.array .int)) (by decide) (by decide))))
  have f55 := ((((((F23.keep Kq27 nin0).other W32 (Or.inr (slot_ne (Or.inl (wi hw 16 rfl)) (Or.inl (wi hw 18 rfl)) (by decide) (t := (.array .int)) (t' := (.array .int)) (by decide) (by decide)))).keep Kq35 nin0).other W40 (Or.inr (slot_ne (Or.inl (wi hw 16 rfl)) (Or.inl (wi hw 21 rfl)) (by decide) (t := (.array .int)) (t' := (.array .double)) (by decide) (by decide)))).keep Kq46 nin0).other W51 (Or.inr (slot_ne (Or.inl (wi hw 16 rfl)) (Or.inl (wi hw 23 rfl)) (by decide) (t := (.array .int)) (t' := (.array .int)) (by decide) (by decide))))
  have f56 := ((((F32.keep Kq35 nin0).other W40 (Or.inr (slot_ne (Or.inl (wi hw 18 rfl)) (Or.inl (wi hw 21 rfl)) (by decide) (t := (.array .int)) (t' := (.array .double)) (by decide) (by decide)))).keep Kq46 nin0).other W51 (Or.inr (slot_ne (Or.inl (wi hw 18 rfl)) (Or.inl (wi hw 23 rfl)) (by decide) (t := (.array .int)) (t' := (.array .int)) (by decide) (by decide))))
  have f57 := ((F40.keep Kq46 nin0).other W51 (Or.inr (slot_ne (Or.inl (wi hw 21 rfl)) (Or.inl (wi hw 23 rfl)) (by decide) (t := (.array .double)) (t' := (.array .int)) (by decide) (by decide))))
  rw [e51]
  have ne58 : a1 ≠ b1_2 := Nat.ne_of_lt (Nat.lt_of_lt_of_le P17.lt sqb1_2)
  have ne59 : b1_2 ≠ b1_9 := Nat.ne_of_lt (Nat.lt_of_lt_of_le (Fq0_2.other W6 (Ne.symm ne58)).lt sqb1_9)
  have ne60 : b1_2 ≠ b1_17 := Nat.ne_of_lt (Nat.lt_of_lt_of_le (((Fq0_2.other W6 (Ne.symm ne58)).keep Kq9 nin0).other W14 (Ne.symm ne58)).lt sqb1_17)
  have ne61 : b1_2 ≠ b1_27 := Nat.ne_of_lt (Nat.lt_of_lt_of_le (((((Fq0_2.other W6 (Ne.symm ne58)).keep Kq9 nin0).other W14 (Ne.symm ne58)).keep Kq17 nin0).other W23 (Ne.symm ne58)).lt sqb1_27)
  have ne62 : b1_2 ≠ b1_35 := Nat.ne_of_lt (Nat.lt_of_lt_of_le (((((((Fq0_2.other W6 (Ne.symm ne58)).keep Kq9 nin0).other W14 (Ne.symm ne58)).keep Kq17 nin0).other W23 (Ne.symm ne58)).keep Kq27 nin0).other W32 (Ne.symm ne58)).lt sqb1_35)
  have ne63 : b1_2 ≠ b1_46 := Nat.ne_of_lt (Nat.lt_of_lt_of_le (((((((((Fq0_2.other W6 (Ne.symm ne58)).keep Kq9 nin0).other W14 (Ne.symm ne58)).keep Kq17 nin0).other W23 (Ne.symm ne58)).keep Kq27 nin0).other W32 (Ne.symm ne58)).keep Kq35 nin0).other W40 (Ne.symm ne58)).lt sqb1_46)
  have ne64 : a1 ≠ b1_9 := Nat.ne_of_lt (Nat.lt_of_lt_of_le f7.lt sqb1_9)
  have ne65 : b1_9 ≠ b1_17 := Nat.ne_of_lt (Nat.lt_of_lt_of_le (Fq0_9.other W14 (Ne.symm ne64)).lt sqb1_17)
  have ne66 : b1_9 ≠ b1_27 := Nat.ne_of_lt (Nat.lt_of_lt_of_le (((Fq0_9.other W14 (Ne.symm ne64)).keep Kq17 nin0).other W23 (Ne.symm ne64)).lt sqb1_27)
  have ne67 : b1_9 ≠ b1_35 := Nat.ne_of_lt (Nat.lt_of_lt_of_le (((((Fq0_9.other W14 (Ne.symm ne64)).keep Kq17 nin0).other W23 (Ne.symm ne64)).keep Kq27 nin0).other W32 (Ne.symm ne64)).lt sqb1_35)
  have ne68 : b1_9 ≠ b1_46 := Nat.ne_of_lt (Nat.lt_of_lt_of_le (((((((Fq0_9.other W14 (Ne.symm ne64)).keep Kq17 nin0).other W23 (Ne.symm ne64)).keep Kq27 nin0).other W32 (Ne.symm ne64)).keep Kq35 nin0).other W40 (Ne.symm ne64)).lt sqb1_46)
  have ne69 : a1 ≠ b1_17 := Nat.ne_of_lt (Nat.lt_of_lt_of_le f15.lt sqb1_17)
  have ne70 : b1_17 ≠ b1_27 := Nat.ne_of_lt (Nat.lt_of_lt_of_le (Fq0_17.other W23 (Ne.symm ne69)).lt sqb1_27)
  have ne71 : b1_17 ≠ b1_35 := Nat.ne_of_lt (Nat.lt_of_lt_of_le (((Fq0_17.other W23 (Ne.symm ne69)).keep Kq27 nin0).other W32 (Ne.symm ne69)).lt sqb1_35)
  have ne72 : b1_17 ≠ b1_46 := Nat.ne_of_lt (Nat.lt_of_lt_of_le (((((Fq0_17.other W23 (Ne.symm ne69)).keep Kq27 nin0).other W32 (Ne.symm ne69)).keep Kq35 nin0).other W40 (Ne.symm ne69)).lt sqb1_46)
  have ne73 : a1 ≠ b1_27 := Nat.ne_of_lt (Nat.lt_of_lt_of_le f25.lt sqb1_27)
  have ne74 : b1_27 ≠ b1_35 := Nat.ne_of_lt (Nat.lt_of_lt_of_le (Fq0_27.other W32 (Ne.symm ne73)).lt sqb1_35)
  have ne75 : b1_27 ≠ b1_46 := Nat.ne_of_lt (Nat.lt_of_lt_of_le (((Fq0_27.other W32 (Ne.symm ne73)).keep Kq35 nin0).other W40 (Ne.symm ne73)).lt sqb1_46)
  have ne76 : a1 ≠ b1_35 := Nat.ne_of_lt (Nat.lt_of_lt_of_le f33.lt sqb1_35)
  have ne77 : b1_35 ≠ b1_46 := Nat.ne_of_lt (Nat.lt_of_lt_of_le (Fq0_35.other W40 (Ne.symm ne76)).lt sqb1_46)
  have f78 := ((f42.keep Kq46 nin0).other W51 (Or.inr (slot_ne (Or.inr (wi hw 28 rfl)) (Or.inl (wi hw 23 rfl)) (by decide) (t := .boolean) (t' := (.array .int)) (by decide) (by decide))))
  have f79 := ((((((((((((P2.keep Kq2 nin0).other W6 (Or.inr (slot_ne (Or.inl (wi hw 26 rfl)) (Or.inl (wi hw 12 rfl)) (by decide) (t := (.array .long)) (t' := (.array .int)) (by decide) (by decide)))).keep Kq9 nin0).other W14 (Or.inr (slot_ne (Or.inl (wi hw 26 rfl)) (Or.inl (wi hw 14 rfl)) (by decide) (t := (.array .long)) (t' := (.array .int)) (by decide) (by decide)))).keep Kq17 nin0).other W23 (Or.inr (slot_ne (Or.inl (wi hw 26 rfl)) (Or.inl (wi hw 16 rfl)) (by decide) (t := (.array .long)) (t' := (.array .int)) (by decide) (by decide)))).keep Kq27 nin0).other W32 (Or.inr (slot_ne (Or.inl (wi hw 26 rfl)) (Or.inl (wi hw 18 rfl)) (by decide) (t := (.array .long)) (t' := (.array .int)) (by decide) (by decide)))).keep Kq35 nin0).other W40 (Or.inr (slot_ne (Or.inl (wi hw 26 rfl)) (Or.inl (wi hw 21 rfl)) (by decide) (t := (.array .long)) (t' := (.array .double)) (by decide) (by decide)))).keep Kq46 nin0).other W51 (Or.inr (slot_ne (Or.inl (wi hw 26 rfl)) (Or.inl (wi hw 23 rfl)) (by decide) (t := (.array .long)) (t' := (.array .int)) (by decide) (by decide))))
  have f80 := ((((((((((((P15.keep Kq2 nin0).other W6 (Or.inr (slot_ne (Or.inl (wi hw 35 rfl)) (Or.inl (wi hw 12 rfl)) (by decide) (t := .int) (t' := (.array .int)) (by decide) (by decide)))).keep Kq9 nin0).other W14 (Or.inr (slot_ne (Or.inl (wi hw 35 rfl)) (Or.inl (wi hw 14 rfl)) (by decide) (t := .int) (t' := (.array .int)) (by decide) (by decide)))).keep Kq17 nin0).other W23 (Or.inr (slot_ne (Or.inl (wi hw 35 rfl)) (Or.inl (wi hw 16 rfl)) (by decide) (t := .int) (t' := (.array .int)) (by decide) (by decide)))).keep Kq27 nin0).other W32 (Or.inr (slot_ne (Or.inl (wi hw 35 rfl)) (Or.inl (wi hw 18 rfl)) (by decide) (t := .int) (t' := (.array .int)) (by decide) (by decide)))).keep Kq35 nin0).other W40 (Or.inr (slot_ne (Or.inl (wi hw 35 rfl)) (Or.inl (wi hw 21 rfl)) (by decide) (t := .int) (t' := (.array .double)) (by decide) (by decide)))).keep Kq46 nin0).other W51 (Or.inr (slot_ne (Or.inl (wi hw 35 rfl)) (Or.inl (wi hw 23 rfl)) (by decide) (t := .int) (t' := (.array .int)) (by decide) (by decide))))
  have f81 := ((((((((((((P16.keep Kq2 nin0).other W6 (Or.inr (slot_ne (Or.inl (wi hw 70 rfl)) (Or.inl (wi hw 12 rfl)) (by decide) (t := .int) (t' := (.array .int)) (by decide) (by decide)))).keep Kq9 nin0).other W14 (Or.inr (slot_ne (Or.inl (wi hw 70 rfl)) (Or.inl (wi hw 14 rfl)) (by decide) (t := .int) (t' := (.array .int)) (by decide) (by decide)))).keep Kq17 nin0).other W23 (Or.inr (slot_ne (Or.inl (wi hw 70 rfl)) (Or.inl (wi hw 16 rfl)) (by decide) (t := .int) (t' := (.array .int)) (by decide) (by decide)))).keep Kq27 nin0).other W32 (Or.inr (slot_ne (Or.inl (wi hw 70 rfl)) (Or.inl (wi hw 18 rfl)) (by decide) (t := .int) (t' := (.array .int)) (by decide) (by decide)))).keep Kq35 nin0).other W40 (Or.inr (slot_ne (Or.inl (wi hw 70 rfl)) (Or.inl (wi hw 21 rfl)) (by decide) (t := .int) (t' := (.array .double)) (by decide) (by decide)))).keep Kq46 nin0).other W51 (Or.inr (slot_ne (Or.inl (wi hw 70 rfl)) (Or.inl (wi hw 23 rfl)) (by decide) (t := .int) (t' := (.array .int)) (by decide) (by decide))))
  have f82 := ((((((((((((P17.keep Kq2 nin0).other W6 (Or.inr (slot_ne (Or.inl (wi hw 72 rfl)) (Or.inl (wi hw 12 rfl)) (by decide) (t := .long) (t' := (.array .int)) (by decide) (by decide)))).keep Kq9 nin0).other W14 (Or.inr (slot_ne (Or.inl (wi hw 72 rfl)) (Or.inl (wi hw 14 rfl)) (by decide) (t := .long) (t' := (.array .int)) (by decide) (by decide)))).keep Kq17 nin0).other W23 (Or.inr (slot_ne (Or.inl (wi hw 72 rfl)) (Or.inl (wi hw 16 rfl)) (by decide) (t := .long) (t' := (.array .int)) (by decide) (by decide)))).keep Kq27 nin0).other W32 (Or.inr (slot_ne (Or.inl (wi hw 72 rfl)) (Or.inl (wi hw 18 rfl)) (by decide) (t := .long) (t' := (.array .int)) (by decide) (by decide)))).keep Kq35 nin0).other W40 (Or.inr (slot_ne (Or.inl (wi hw 72 rfl)) (Or.inl (wi hw 21 rfl)) (by decide) (t := .long) (t' := (.array .double)) (by decide) (by decide)))).keep Kq46 nin0).other W51 (Or.inr (slot_ne (Or.inl (wi hw 72 rfl)) (Or.inl (wi hw 23 rfl)) (by decide) (t := .long) (t' := (.array .int)) (by decide) (by decide))))
  have f83 := (((((((((((Fq0_2.other W6 (Ne.symm ne58)).keep Kq9 nin0).other W14 (Ne.symm ne58)).keep Kq17 nin0).other W23 (Ne.symm ne58)).keep Kq27 nin0).other W32 (Ne.symm ne58)).keep Kq35 nin0).other W40 (Ne.symm ne58)).keep Kq46 nin0).other W51 (Ne.symm ne58))
  have f84 := (((((((((Fq0_9.other W14 (Ne.symm ne64)).keep Kq17 nin0).other W23 (Ne.symm ne64)).keep Kq27 nin0).other W32 (Ne.symm ne64)).keep Kq35 nin0).other W40 (Ne.symm ne64)).keep Kq46 nin0).other W51 (Ne.symm ne64))
  have f85 := (((((((Fq0_17.other W23 (Ne.symm ne69)).keep Kq27 nin0).other W32 (Ne.symm ne69)).keep Kq35 nin0).other W40 (Ne.symm ne69)).keep Kq46 nin0).other W51 (Ne.symm ne69))
  have f86 := (((((Fq0_27.other W32 (Ne.symm ne73)).keep Kq35 nin0).other W40 (Ne.symm ne73)).keep Kq46 nin0).other W51 (Ne.symm ne73))
  have f87 := (((Fq0_35.other W40 (Ne.symm ne76)).keep Kq46 nin0).other W51 (Ne.symm ne76))
  have ne88 : a1 ≠ b1_46 := Nat.ne_of_lt (Nat.lt_of_lt_of_le f44.lt sqb1_46)
  have f89 := (Fq0_46.other W51 (Ne.symm ne88))
  exact ⟨b1_2, b1_9, b1_17, b1_27, b1_35, b1_46, rfl, (Fr.snoc X51 N46 ge_a1), K52, gqb1_2, s3, gqb1_9, s11, gqb1_17, s20, gqb1_27, s29, gqb1_35, s37, gqb1_46, s48, ne59, ne60, ne61, ne62, ne63, ne65, ne66, ne67, ne68, ne70, ne71, ne72, ne74, ne75, ne77, f78, f79, f53, f54, f55, f56, f57, F51, f80, f81, f82, f83, f84, f85, f86, f87, f89⟩
theorem d3_56 : decode prog_12_method_2_code 56 = .ok (.aload_n 0, 1) := by decide +kernel
theorem d3_57 : decode prog_12_method_2_code 57 = .ok (.getfield 26, 3) := by decide +kernel
theorem d3_60 : decode prog_12_method_2_code 60 = .ok (.iload 6, 2) := by decide +kernel
theorem d3_62 : decode prog_12_method_2_code 62 = .ok (.iload 5, 2) := by decide +kernel
theorem d3_64 : decode prog_12_method_2_code 64 = .ok (.iastore, 1) := by decide +kernel
theorem ef_rm_addA1 (m : MethodId) (x0 : Addr) (x1 : Int32) (x2 : Int32) (x3 : UInt64) (x4 : Int32) : entryFrame m #[(.ref x0), (.int x1), (.int x2), (.double x3), (.int x4)] 7 = mkF m 0 #[.val (.ref x0), .val (.int x1), .val (.int x2), .val (.double x3), .second, .val (.int x4), .unset] [] := by first | (simp [entryFrame, mkF, argsToLocals, Value.category]; done) | rfl
set_option maxRecDepth 65536 in
set_option maxHeartbeats 40000000 in
theorem rm_addA1 (l : Launch) (Z : State) (a0 : Array Value) (hw : ∀ d ∈ tables_1, d.before a0 Z = true) (a1 : Addr) (i1 : Int32) (i2 : Int32) (d1 : UInt64) (i3 : Int32) (x1 : Addr) (x2 : Addr) (x3 : Addr) (x4 : Addr) (x5 : Addr) (x6 : Addr) (x7 : Addr) (g1 : Nat → Int32) (g2 : Nat → Int32) (g3 : Nat → Int32) (g4 : Nat → Int32) (g5 : Nat → UInt64) (g6 : Nat → Int32) (t2 : Int32) (u1 : Int64) (h0 : Heap) (n0 : Nat) (Z0 : n0 ≤ h0.size) (P0 : Exa Z h0 a1 "com/example/edgewise/edgewise/EdgeSlots") (P1 : Fld Z h0 a1 "com/example/edgewise/edgewise/EdgeSlots" "keyed" "Z" (.int (1 : Int32))) (P2 : Fld Z h0 a1 "com/example/edgewise/edgewise/EdgeSlots" "keptNumbers" "[J" (.ref x7)) (P3 : Fld Z h0 a1 "com/example/edgewise/edgewise/EdgeSlots" "sources" "[I" (.ref x1)) (P4 : Fld Z h0 a1 "com/example/edgewise/edgewise/EdgeSlots" "targets" "[I" (.ref x2)) (P5 : Fld Z h0 a1 "com/example/edgewise/edgewise/EdgeSlots" "sourcePositions" "[I" (.ref x3)) (P6 : Fld Z h0 a1 "com/example/edgewise/edgewise/EdgeSlots" "targetPositions" "[I" (.ref x4)) (P7 : Fld Z h0 a1 "com/example/edgewise/edgewise/EdgeSlots" "weights" "[D" (.ref x5)) (P8 : Fld Z h0 a1 "com/example/edgewise/edgewise/EdgeSlots" "keys" "[I" (.ref x6)) (P9 : ArF Z h0 x1 .int 0 (fun i => .int (g1 i))) (P10 : ArF Z h0 x2 .int 0 (fun i => .int (g2 i))) (P11 : ArF Z h0 x3 .int 0 (fun i => .int (g3 i))) (P12 : ArF Z h0 x4 .int 0 (fun i => .int (g4 i))) (P13 : ArF Z h0 x5 .double 0 (fun i => .double (g5 i))) (P14 : ArF Z h0 x6 .int 0 (fun i => .int (g6 i))) (P15 : Fld Z h0 a1 "com/example/edgewise/edgewise/EdgeSlots" "bound" "I" (.int (0 : Int32))) (P16 : Fld Z h0 a1 "com/example/edgewise/edgewise/EdgeSlots" "count" "I" (.int t2)) (P17 : Fld Z h0 a1 "com/example/edgewise/edgewise/EdgeSlots" "nextNumber" "J" (.long u1)) (ne_x1_a1 : x1 ≠ a1) (ne_x2_a1 : x2 ≠ a1) (ne_x3_a1 : x3 ≠ a1) (ne_x4_a1 : x4 ≠ a1) (ne_x5_a1 : x5 ≠ a1) (ne_x6_a1 : x6 ≠ a1) (ge_a1 : n0 ≤ a1) :
    Con l Z (⟨"com/example/edgewise/edgewise/EdgeSlots", "add", "(IIDI)I"⟩ : MethodName) prog_12_method_2_code 7 (some .int) ({ frames := 3, cells := 6, slots := 24, locals := 68 } : Room) #[(.ref a1), (.int i1), (.int i2), (.double d1), (.int i3)] h0 (fun v h L => ∃ (b1 : Addr) (b2 : Addr) (b3 : Addr) (b4 : Addr) (b5 : Addr) (b6 : Addr), v = some (.int (0 : Int32)) ∧ Fr n0 L ∧ Keep h0 h [a1] ∧ n0 ≤ b1 ∧ h0.size ≤ b1 ∧ n0 ≤ b2 ∧ h0.size ≤ b2 ∧ n0 ≤ b3 ∧ h0.size ≤ b3 ∧ n0 ≤ b4 ∧ h0.size ≤ b4 ∧ n0 ≤ b5 ∧ h0.size ≤ b5 ∧ n0 ≤ b6 ∧ h0.size ≤ b6 ∧ b1 ≠ b2 ∧ b1 ≠ b3 ∧ b1 ≠ b4 ∧ b1 ≠ b5 ∧ b1 ≠ b6 ∧ b2 ≠ b3 ∧ b2 ≠ b4 ∧ b2 ≠ b5 ∧ b2 ≠ b6 ∧ b3 ≠ b4 ∧ b3 ≠ b5 ∧ b3 ≠ b6 ∧ b4 ≠ b5 ∧ b4 ≠ b6 ∧ b5 ≠ b6 ∧ Fld Z h a1 "com/example/edgewise/edgewise/EdgeSlots" "keyed" "Z" (.int (1 : Int32)) ∧ Fld Z h a1 "com/example/edgewise/edgewise/EdgeSlots" "keptNumbers" "[J" (.ref x7) ∧ Fld Z h a1 "com/example/edgewise/edgewise/EdgeSlots" "sources" "[I" (.ref b1) ∧ Fld Z h a1 "com/example/edgewise/edgewise/EdgeSlots" "targets" "[I" (.ref b2) ∧ Fld Z h a1 "com/example/edgewise/edgewise/EdgeSlots" "sourcePositions" "[I" (.ref b3) ∧ Fld Z h a1 "com/example/edgewise/edgewise/EdgeSlots" "targetPositions" "[I" (.ref b4) ∧ Fld Z h a1 "com/example/edgewise/edgewise/EdgeSlots" "weights" "[D" (.ref b5) ∧ Fld Z h a1 "com/example/edgewise/edgewise/EdgeSlots" "keys" "[I" (.ref b6) ∧ Fld Z h a1 "com/example/edgewise/edgewise/EdgeSlots" "bound" "I" (.int (1 : Int32)) ∧ Fld Z h a1 "com/example/edgewise/edgewise/EdgeSlots" "count" "I" (.int (t2 + (1 : Int32))) ∧ Fld Z h a1 "com/example/edgewise/edgewise/EdgeSlots" "nextNumber" "J" (.long (u1 + (1 : Int64))) ∧ ArF Z h b1 .int 4 (fun i => .int ((upI (fun _ => (0 : Int32)) 0 i1) i)) ∧ ArF Z h b2 .int 4 (fun i => .int ((upI (fun _ => (0 : Int32)) 0 i2) i)) ∧ ArF Z h b3 .int 4 (fun i => .int ((fun _ => (0 : Int32)) i)) ∧ ArF Z h b4 .int 4 (fun i => .int ((fun _ => (0 : Int32)) i)) ∧ ArF Z h b5 .double 4 (fun i => .double ((upD (fun _ => (0 : UInt64)) 0 d1) i)) ∧ ArF Z h b6 .int 4 (fun i => .int ((upI (fun _ => (0 : Int32)) 0 i3) i))) := by
  refine meet (y := (⟨"com/example/edgewise/edgewise/EdgeSlots", "add", "(IIDI)I"⟩ : MethodName)) (Q := fun v h L => ∃ (b1 : Addr) (b2 : Addr) (b3 : Addr) (b4 : Addr) (b5 : Addr) (b6 : Addr), v = some (.int (0 : Int32)) ∧ Fr n0 L ∧ Keep h0 h [a1] ∧ n0 ≤ b1 ∧ h0.size ≤ b1 ∧ n0 ≤ b2 ∧ h0.size ≤ b2 ∧ n0 ≤ b3 ∧ h0.size ≤ b3 ∧ n0 ≤ b4 ∧ h0.size ≤ b4 ∧ n0 ≤ b5 ∧ h0.size ≤ b5 ∧ n0 ≤ b6 ∧ h0.size ≤ b6 ∧ b1 ≠ b2 ∧ b1 ≠ b3 ∧ b1 ≠ b4 ∧ b1 ≠ b5 ∧ b1 ≠ b6 ∧ b2 ≠ b3 ∧ b2 ≠ b4 ∧ b2 ≠ b5 ∧ b2 ≠ b6 ∧ b3 ≠ b4 ∧ b3 ≠ b5 ∧ b3 ≠ b6 ∧ b4 ≠ b5 ∧ b4 ≠ b6 ∧ b5 ≠ b6 ∧ Fld Z h a1 "com/example/edgewise/edgewise/EdgeSlots" "keyed" "Z" (.int (1 : Int32)) ∧ Fld Z h a1 "com/example/edgewise/edgewise/EdgeSlots" "keptNumbers" "[J" (.ref x7) ∧ Fld Z h a1 "com/example/edgewise/edgewise/EdgeSlots" "sources" "[I" (.ref b1) ∧ Fld Z h a1 "com/example/edgewise/edgewise/EdgeSlots" "targets" "[I" (.ref b2) ∧ Fld Z h a1 "com/example/edgewise/edgewise/EdgeSlots" "sourcePositions" "[I" (.ref b3) ∧ Fld Z h a1 "com/example/edgewise/edgewise/EdgeSlots" "targetPositions" "[I" (.ref b4) ∧ Fld Z h a1 "com/example/edgewise/edgewise/EdgeSlots" "weights" "[D" (.ref b5) ∧ Fld Z h a1 "com/example/edgewise/edgewise/EdgeSlots" "keys" "[I" (.ref b6) ∧ Fld Z h a1 "com/example/edgewise/edgewise/EdgeSlots" "bound" "I" (.int (1 : Int32)) ∧ Fld Z h a1 "com/example/edgewise/edgewise/EdgeSlots" "count" "I" (.int (t2 + (1 : Int32))) ∧ Fld Z h a1 "com/example/edgewise/edgewise/EdgeSlots" "nextNumber" "J" (.long (u1 + (1 : Int64))) ∧ ArF Z h b1 .int 4 (fun i => .int ((upI (fun _ => (0 : Int32)) 0 i1) i)) ∧ ArF Z h b2 .int 4 (fun i => .int ((upI (fun _ => (0 : Int32)) 0 i2) i)) ∧ ArF Z h b3 .int 4 (fun i => .int ((fun _ => (0 : Int32)) i)) ∧ ArF Z h b4 .int 4 (fun i => .int ((fun _ => (0 : Int32)) i)) ∧ ArF Z h b5 .double 4 (fun i => .double ((upD (fun _ => (0 : UInt64)) 0 d1) i)) ∧ ArF Z h b6 .int 4 (fun i => .int ((upI (fun _ => (0 : Int32)) 0 i3) i))) (plainFor_of_name pn_com_example_edgewise_edgewise_EdgeSlots) (fun m => ef_rm_addA1 m a1 i1 i2 d1 i3) ?_
  intro p e s m below meth c T0 hx hby hml hZ hown hnm hret hlk X0 e0
  have N0 := Fr.nil n0
  have K0 := Keep.refl h0 [a1]
  refine g_aloadN X0 hx hby d3_0 (pc' := 1) rfl rfl rfl ?_
  refine g_getf X0 hx hby hZ hown (host := "") (Or.inl (wi hw 34 rfl)) Via.refl e0 P15 d3_1 (pc' := 4) rfl ?_
  intro T1 X1 e1
  refine g_istore X1 hx hby d3_4 (pc' := 6) rfl (L' := #[.val (.ref a1), .val (.int i1), .val (.int i2), .val (.double d1), .second, .val (.int i3), .val (.int (0 : Int32))]) rfl ?_
  refine g_iload X1 hx hby d3_6 (pc' := 8) rfl rfl ?_
  refine g_aloadN X1 hx hby d3_8 (pc' := 9) rfl rfl rfl ?_
  refine g_getf X1 hx hby hZ hown (host := "") (Or.inl (wi hw 11 rfl)) Via.refl e1 P3 d3_9 (pc' := 12) rfl ?_
  intro T2 X2 e2
  refine Go.alen X2 hx hZ e2 P9 (z := (0 : Int32)) rfl (hb hby d3_12) (pc' := 13) rfl ?_
  have hc13 : (0 : Int) = (0 : Int) := by decide
  refine g_icmpNo X2 hx hby d3_13 (pc' := 16) (teq (show (0 : Int32) = (0 : Int32) from Int32.toInt_inj.mp hc13)).2 rfl ?_
  refine g_aloadN X2 hx hby d3_16 (pc' := 17) rfl rfl rfl ?_
  refine g_iload X2 hx hby d3_17 (pc' := 19) rfl rfl ?_
  refine Go.callS X2 hx hZ hown (wi hw 36 rfl) (wi hw 37 rfl) (wi hw 38 rfl) (wi hw 39 rfl) (by decide) e2 (argsL := [(.int (0 : Int32))]) (rest := [(.ref a1)]) (W := 1) (rm_next0 l Z a0 hw  h0 n0 Z0 ) (hb hby d3_19) (by rw [hml]; rfl) rfl pd4 rfl rfl (by decide) (by decide) (by decide) (by decide) ?_
  intro v3 T3 L3 X3 hQ3
  obtain ⟨rfl, Nq3, hh3⟩ := hQ3
  have N3 := Fr.app N0 Nq3
  refine Go.push (pc' := 22) rfl ?_
  refine Go.callP X3 hx hZ (y := (⟨"com/example/edgewise/edgewise/EdgeSlots", "resize", "(I)V"⟩ : MethodName)) hown (wi hw 51 rfl) (wi hw 52 rfl) (wi hw 2 rfl) (wi hw 53 rfl) (wi hw 3 rfl) (wi hw 54 rfl) (by decide) hh3 (a := a1)  (argsL := [(.int (4 : Int32))]) (rest := []) (W := 0) P0 (rm_resize1 l Z a0 hw a1 x1 x2 x3 x4 x5 x6 x7 g1 g2 g3 g4 g5 g6 (0 : Int32) t2 u1 h0 n0 Z0 P0 P1 P2 P3 P4 P5 P6 P7 P8 P9 P10 P11 P12 P13 P14 P15 P16 P17 ne_x1_a1 ne_x2_a1 ne_x3_a1 ne_x4_a1 ne_x5_a1 ne_x6_a1 ge_a1) (hb hby d3_22) (by rw [hml]; rfl) rfl pd5 rfl rfl (by decide) (by decide) (by decide) (by decide) ?_
  intro v4 T4 L4 X4 hQ4
  obtain ⟨h4, e4⟩ : ∃ z, T4.heap = z := ⟨_, rfl⟩
  rw [e4] at hQ4
  obtain ⟨b1_4, b2_4, b3_4, b4_4, b5_4, b6_4, rfl, Nq4, Kq4, gqb1_4, sqb1_4, gqb2_4, sqb2_4, gqb3_4, sqb3_4, gqb4_4, sqb4_4, gqb5_4, sqb5_4, gqb6_4, sqb6_4, nqb1_b2_4, nqb1_b3_4, nqb1_b4_4, nqb1_b5_4, nqb1_b6_4, nqb2_b3_4, nqb2_b4_4, nqb2_b5_4, nqb2_b6_4, nqb3_b4_4, nqb3_b5_4, nqb3_b6_4, nqb4_b5_4, nqb4_b6_4, nqb5_b6_4, Fq0_4, Fq1_4, Fq2_4, Fq3_4, Fq4_4, Fq5_4, Fq6_4, Fq7_4, Fq8_4, Fq9_4, Fq10_4, Fq11_4, Fq12_4, Fq13_4, Fq14_4, Fq15_4, Fq16_4⟩ := hQ4
  have N4 := Fr.app N3 Nq4
  have s5 : h0.size ≤ b1_4 := Nat.le_trans K0.1 sqb1_4
  have s6 : h0.size ≤ b2_4 := Nat.le_trans K0.1 sqb2_4
  have s7 : h0.size ≤ b3_4 := Nat.le_trans K0.1 sqb3_4
  have s8 : h0.size ≤ b4_4 := Nat.le_trans K0.1 sqb4_4
  have s9 : h0.size ≤ b5_4 := Nat.le_trans K0.1 sqb5_4
  have s10 : h0.size ≤ b6_4 := Nat.le_trans K0.1 sqb6_4
  refine Go.void (pc' := 25) rfl ?_
  refine g_aloadN X4 hx hby d3_25 (pc' := 26) rfl rfl rfl ?_
  refine g_getf X4 hx hby hZ hown (host := "") (Or.inl (wi hw 11 rfl)) Via.refl e4 Fq2_4 d3_26 (pc' := 29) rfl ?_
  intro T11 X11 e11
  refine g_iload X11 hx hby d3_29 (pc' := 31) rfl rfl ?_
  refine g_iloadN X11 hx hby d3_31 (pc' := 32) rfl rfl ?_
  refine Go.iastore X11 hx hZ e11 Fq11_4 (k := 0) rfl (by decide) (hb hby d3_32) (pc' := 33) rfl ?_
  intro T12 h12 X12 e12 W12 V12
  refine g_aloadN X12 hx hby d3_33 (pc' := 34) rfl rfl rfl ?_
  have ne13 : a1 ≠ b1_4 := Nat.ne_of_lt (Nat.lt_of_lt_of_le P17.lt sqb1_4)
  have f14 := (Fq3_4.other W12 (Or.inl ne13))
  refine g_getf X12 hx hby hZ hown (host := "") (Or.inl (wi hw 13 rfl)) Via.refl e12 f14 d3_34 (pc' := 37) rfl ?_
  intro T15 X15 e15
  refine g_iload X15 hx hby d3_37 (pc' := 39) rfl rfl ?_
  refine g_iloadN X15 hx hby d3_39 (pc' := 40) rfl rfl ?_
  have f16 := (Fq12_4.other W12 (Ne.symm nqb1_b2_4))
  refine Go.iastore X15 hx hZ e15 f16 (k := 0) rfl (by decide) (hb hby d3_40) (pc' := 41) rfl ?_
  intro T17 h17 X17 e17 W17 V17
  refine g_aloadN X17 hx hby d3_41 (pc' := 42) rfl rfl rfl ?_
  have ne18 : a1 ≠ b2_4 := Nat.ne_of_lt (Nat.lt_of_lt_of_le P17.lt sqb2_4)
  have f19 := ((Fq6_4.other W12 (Or.inl ne13)).other W17 (Or.inl ne18))
  refine g_getf X17 hx hby hZ hown (host := "") (Or.inl (wi hw 20 rfl)) Via.refl e17 f19 d3_42 (pc' := 45) rfl ?_
  intro T20 X20 e20
  refine g_iload X20 hx hby d3_45 (pc' := 47) rfl rfl ?_
  refine g_dloadN X20 hx hby d3_47 (pc' := 48) rfl rfl ?_
  have f21 := ((Fq15_4.other W12 (Ne.symm nqb1_b5_4)).other W17 (Ne.symm nqb2_b5_4))
  refine Go.dastore X20 hx hZ e20 f21 (k := 0) rfl (by decide) (hb hby d3_48) (pc' := 49) rfl ?_
  intro T22 h22 X22 e22 W22 V22
  have z23 : n0 ≤ h22.size := (Nat.le_trans (Nat.le_trans (Nat.le_trans (Nat.le_trans Z0 Kq4.1) (Nat.le_of_eq (Wr.size W12).symm)) (Nat.le_of_eq (Wr.size W17).symm)) (Nat.le_of_eq (Wr.size W22).symm))
  refine g_aloadN X22 hx hby d3_49 (pc' := 50) rfl rfl rfl ?_
  have ne24 : a1 ≠ b5_4 := Nat.ne_of_lt (Nat.lt_of_lt_of_le P17.lt sqb5_4)
  have f25 := (((Fq0_4.other W12 (Or.inl ne13)).other W17 (Or.inl ne18)).other W22 (Or.inl ne24))
  refine g_getf X22 hx hby hZ hown (host := "") (Or.inl (wi hw 27 rfl)) Via.refl e22 f25 d3_50 (pc' := 53) rfl ?_
  intro T26 X26 e26
  have hc53 : ¬ ((1 : Int) = (0 : Int)) := by decide
  refine g_ifNo X26 hx hby d3_53 (pc' := 56) (feq (show ¬ ((1 : Int32) = (0 : Int32)) from fun q => hc53 (congrArg Int32.toInt q))).1 rfl ?_
  refine g_aloadN X26 hx hby d3_56 (pc' := 57) rfl rfl rfl ?_
  have f27 := (((Fq7_4.other W12 (Or.inl ne13)).other W17 (Or.inl ne18)).other W22 (Or.inl ne24))
  refine g_getf X26 hx hby hZ hown (host := "") (Or.inl (wi hw 22 rfl)) Via.refl e26 f27 d3_57 (pc' := 60) rfl ?_
  intro T28 X28 e28
  refine g_iload X28 hx hby d3_60 (pc' := 62) rfl rfl ?_
  refine g_iload X28 hx hby d3_62 (pc' := 64) rfl rfl ?_
  have f29 := (((Fq16_4.other W12 (Ne.symm nqb1_b6_4)).other W17 (Ne.symm nqb2_b6_4)).other W22 (Ne.symm nqb5_b6_4))
  refine Go.iastore X28 hx hZ e28 f29 (k := 0) rfl (by decide) (hb hby d3_64) (pc' := 65) rfl ?_
  intro T30 h30 X30 e30 W30 V30
  refine g_aloadN X30 hx hby d3_65 (pc' := 66) rfl rfl rfl ?_
  refine g_iload X30 hx hby d3_66 (pc' := 68) rfl rfl ?_
  refine g_iconst X30 hx hby d3_68 (pc' := 69) rfl (z := (1 : Int32)) rfl ?_
  refine g_iadd X30 hx hby d3_69 (pc' := 70) rfl (z := (1 : Int32)) rfl ?_
  have ne31 : a1 ≠ b6_4 := Nat.ne_of_lt (Nat.lt_of_lt_of_le P17.lt sqb6_4)
  have f32 := ((((Fq8_4.other W12 (Or.inl ne13)).other W17 (Or.inl ne18)).other W22 (Or.inl ne24)).other W30 (Or.inl ne31))
  have f33 := (((((P0.keep Kq4).wr W12).wr W17).wr W22).wr W30)
  refine g_putf X30 hx hby hZ hown (host := "") (Or.inl (wi hw 34 rfl)) Via.refl e30 f32 f33 (Or.inl (wi hw 35 rfl)) (wi hw 2 rfl) (ty := .int) (by decide) rfl rfl d3_70 (pc' := 73) rfl ?_
  intro T34 h34 X34 e34 W34 F34
  have K35 : Keep h0 h34 [a1] := ((((((K0.trans Kq4 (allS (Or.inl (List.mem_of_getElem? (i := 0) rfl)) all0)).wr W12 (Or.inr s5)).wr W17 (Or.inr s6)).wr W22 (Or.inr s9)).wr W30 (Or.inr s10)).wr W34 (Or.inl (List.mem_of_getElem? (i := 0) rfl)))
  refine g_aloadN X34 hx hby d3_73 (pc' := 74) rfl rfl rfl ?_
  refine g_dup X34 hx hby d3_74 (pc' := 75) rfl rfl ?_
  have f36 := (((((Fq9_4.other W12 (Or.inl ne13)).other W17 (Or.inl ne18)).other W22 (Or.inl ne24)).other W30 (Or.inl ne31)).other W34 (Or.inr (slot_ne (Or.inl (wi hw 70 rfl)) (Or.inl (wi hw 35 rfl)) (by decide) (t := .int) (t' := .int) (by decide) (by decide))))
  refine g_getf X34 hx hby hZ hown (host := "") (Or.inl (wi hw 69 rfl)) Via.refl e34 f36 d3_75 (pc' := 78) rfl ?_
  intro T37 X37 e37
  refine g_iconst X37 hx hby d3_78 (pc' := 79) rfl (z := (1 : Int32)) rfl ?_
  refine g_iadd X37 hx hby d3_79 (pc' := 80) rfl rfl ?_
  have f38 := f33.wr W34
  refine g_putf X37 hx hby hZ hown (host := "") (Or.inl (wi hw 69 rfl)) Via.refl e37 f36 f38 (Or.inl (wi hw 70 rfl)) (wi hw 2 rfl) (ty := .int) (by decide) rfl rfl d3_80 (pc' := 83) rfl ?_
  intro T39 h39 X39 e39 W39 F39
  have N39 := (Fr.snoc X39 (Fr.snoc X34 (Fr.snoc X30 (Fr.snoc X22 (Fr.snoc X17 (Fr.snoc X12 N4 gqb1_4) gqb2_4) gqb5_4) gqb6_4) ge_a1) ge_a1)
  refine g_aloadN X39 hx hby d3_83 (pc' := 84) rfl rfl rfl ?_
  refine g_dup X39 hx hby d3_84 (pc' := 85) rfl rfl ?_
  have f40 := ((((((Fq10_4.other W12 (Or.inl ne13)).other W17 (Or.inl ne18)).other W22 (Or.inl ne24)).other W30 (Or.inl ne31)).other W34 (Or.inr (slot_ne (Or.inl (wi hw 72 rfl)) (Or.inl (wi hw 35 rfl)) (by decide) (t := .long) (t' := .int) (by decide) (by decide)))).other W39 (Or.inr (slot_ne (Or.inl (wi hw 72 rfl)) (Or.inl (wi hw 70 rfl)) (by decide) (t := .long) (t' := .int) (by decide) (by decide))))
  refine g_getf X39 hx hby hZ hown (host := "") (Or.inl (wi hw 71 rfl)) Via.refl e39 f40 d3_85 (pc' := 88) rfl ?_
  intro T41 X41 e41
  refine Go.of (fun _ k => XS.lconst X41.here hx rfl (hb hby d3_88) k) ?_
  show Go p.tables e below s _ _ _ (T41.setTop (mkF m 89 #[.val (.ref a1), .val (.int i1), .val (.int i2), .val (.double d1), .second, .val (.int i3), .val (.int (0 : Int32))] [(.long (1 : Int64)), (.long u1), (.ref a1)]))
  refine g_ladd X41 hx hby d3_89 (pc' := 90) rfl rfl ?_
  have f42 := f38.wr W39
  refine g_putf X41 hx hby hZ hown (host := "") (Or.inl (wi hw 71 rfl)) Via.refl e41 f40 f42 (Or.inl (wi hw 72 rfl)) (wi hw 2 rfl) (ty := .long) (by decide) rfl rfl d3_90 (pc' := 93) rfl ?_
  intro T43 h43 X43 e43 W43 F43
  have z44 : n0 ≤ h43.size := (Nat.le_trans (Nat.le_trans (Nat.le_trans (Nat.le_trans z23 (Nat.le_of_eq (Wr.size W30).symm)) (Nat.le_of_eq (Wr.size W34).symm)) (Nat.le_of_eq (Wr.size W39).symm)) (Nat.le_of_eq (Wr.size W43).symm))
  refine g_iload X43 hx hby d3_93 (pc' := 95) rfl rfl ?_
  refine Go.retI X43 hx hlk hret (hb hby d3_95) (by decide) (by decide) ?_
  have f45 := (((((((Fq2_4.other W12 (Or.inl ne13)).other W17 (Or.inl ne18)).other W22 (Or.inl ne24)).other W30 (Or.inl ne31)).other W34 (Or.inr (slot_ne (Or.inl (wi hw 12 rfl)) (Or.inl (wi hw 35 rfl)) (by decide) (t := (.array .int)) (t' := .int) (by decide) (by decide)))).other W39 (Or.inr (slot_ne (Or.inl (wi hw 12 rfl)) (Or.inl (wi hw 70 rfl)) (by decide) (t := (.array .int)) (t' := .int) (by decide) (by decide)))).other W43 (Or.inr (slot_ne (Or.inl (wi hw 12 rfl)) (Or.inl (wi hw 72 rfl)) (by decide) (t := (.array .int)) (t' := .long) (by decide) (by decide))))
  have f46 := ((((((f14.other W17 (Or.inl ne18)).other W22 (Or.inl ne24)).other W30 (Or.inl ne31)).other W34 (Or.inr (slot_ne (Or.inl (wi hw 14 rfl)) (Or.inl (wi hw 35 rfl)) (by decide) (t := (.array .int)) (t' := .int) (by decide) (by decide)))).other W39 (Or.inr (slot_ne (Or.inl (wi hw 14 rfl)) (Or.inl (wi hw 70 rfl)) (by decide) (t := (.array .int)) (t' := .int) (by decide) (by decide)))).other W43 (Or.inr (slot_ne (Or.inl (wi hw 14 rfl)) (Or.inl (wi hw 72 rfl)) (by decide) (t := (.array .int)) (t' := .long) (by decide) (by decide))))
  have f47 := (((((((Fq4_4.other W12 (Or.inl ne13)).other W17 (Or.inl ne18)).other W22 (Or.inl ne24)).other W30 (Or.inl ne31)).other W34 (Or.inr (slot_ne (Or.inl (wi hw 16 rfl)) (Or.inl (wi hw 35 rfl)) (by decide) (t := (.array .int)) (t' := .int) (by decide) (by decide)))).other W39 (Or.inr (slot_ne (Or.inl (wi hw 16 rfl)) (Or.inl (wi hw 70 rfl)) (by decide) (t := (.array .int)) (t' := .int) (by decide) (by decide)))).other W43 (Or.inr (slot_ne (Or.inl (wi hw 16 rfl)) (Or.inl (wi hw 72 rfl)) (by decide) (t := (.array .int)) (t' := .long) (by decide) (by decide))))
  have f48 := (((((((Fq5_4.other W12 (Or.inl ne13)).other W17 (Or.inl ne18)).other W22 (Or.inl ne24)).other W30 (Or.inl ne31)).other W34 (Or.inr (slot_ne (Or.inl (wi hw 18 rfl)) (Or.inl (wi hw 35 rfl)) (by decide) (t := (.array .int)) (t' := .int) (by decide) (by decide)))).other W39 (Or.inr (slot_ne (Or.inl (wi hw 18 rfl)) (Or.inl (wi hw 70 rfl)) (by decide) (t := (.array .int)) (t' := .int) (by decide) (by decide)))).other W43 (Or.inr (slot_ne (Or.inl (wi hw 18 rfl)) (Or.inl (wi hw 72 rfl)) (by decide) (t := (.array .int)) (t' := .long) (by decide) (by decide))))
  have f49 := (((((f19.other W22 (Or.inl ne24)).other W30 (Or.inl ne31)).other W34 (Or.inr (slot_ne (Or.inl (wi hw 21 rfl)) (Or.inl (wi hw 35 rfl)) (by decide) (t := (.array .double)) (t' := .int) (by decide) (by decide)))).other W39 (Or.inr (slot_ne (Or.inl (wi hw 21 rfl)) (Or.inl (wi hw 70 rfl)) (by decide) (t := (.array .double)) (t' := .int) (by decide) (by decide)))).other W43 (Or.inr (slot_ne (Or.inl (wi hw 21 rfl)) (Or.inl (wi hw 72 rfl)) (by decide) (t := (.array .double)) (t' := .long) (by decide) (by decide))))
  have f50 := ((((f27.other W30 (Or.inl ne31)).other W34 (Or.inr (slot_ne (Or.inl (wi hw 23 rfl)) (Or.inl (wi hw 35 rfl)) (by decide) (t := (.array .int)) (t' := .int) (by decide) (by decide)))).other W39 (Or.inr (slot_ne (Or.inl (wi hw 23 rfl)) (Or.inl (wi hw 70 rfl)) (by decide) (t := (.array .int)) (t' := .int) (by decide) (by decide)))).other W43 (Or.inr (slot_ne (Or.inl (wi hw 23 rfl)) (Or.inl (wi hw 72 rfl)) (by decide) (t := (.array .int)) (t' := .long) (by decide) (by decide))))
  rw [e43]
  have f51 := ((((f25.other W30 (Or.inl ne31)).other W34 (Or.inr (slot_ne (Or.inr (wi hw 28 rfl)) (Or.inl (wi hw 35 rfl)) (by decide) (t := .boolean) (t' := .int) (by decide) (by decide)))).other W39 (Or.inr (slot_ne (Or.inr (wi hw 28 rfl)) (Or.inl (wi hw 70 rfl)) (by decide) (t := .boolean) (t' := .int) (by decide) (by decide)))).other W43 (Or.inr (slot_ne (Or.inr (wi hw 28 rfl)) (Or.inl (wi hw 72 rfl)) (by decide) (t := .boolean) (t' := .long) (by decide) (by decide))))
  have f52 := (((((((Fq1_4.other W12 (Or.inl ne13)).other W17 (Or.inl ne18)).other W22 (Or.inl ne24)).other W30 (Or.inl ne31)).other W34 (Or.inr (slot_ne (Or.inl (wi hw 26 rfl)) (Or.inl (wi hw 35 rfl)) (by decide) (t := (.array .long)) (t' := .int) (by decide) (by decide)))).other W39 (Or.inr (slot_ne (Or.inl (wi hw 26 rfl)) (Or.inl (wi hw 70 rfl)) (by decide) (t := (.array .long)) (t' := .int) (by decide) (by decide)))).other W43 (Or.inr (slot_ne (Or.inl (wi hw 26 rfl)) (Or.inl (wi hw 72 rfl)) (by decide) (t := (.array .long)) (t' := .long) (by decide) (by decide))))
  have f53 := ((F34.other W39 (Or.inr (slot_ne (Or.inl (wi hw 35 rfl)) (Or.inl (wi hw 70 rfl)) (by decide) (t := .int) (t' := .int) (by decide) (by decide)))).other W43 (Or.inr (slot_ne (Or.inl (wi hw 35 rfl)) (Or.inl (wi hw 72 rfl)) (by decide) (t := .int) (t' := .long) (by decide) (by decide))))
  have f54 := (F39.other W43 (Or.inr (slot_ne (Or.inl (wi hw 70 rfl)) (Or.inl (wi hw 72 rfl)) (by decide) (t := .int) (t' := .long) (by decide) (by decide))))
  have f55 := ((((((V12.other W17 nqb1_b2_4).other W22 nqb1_b5_4).other W30 nqb1_b6_4).other W34 (Ne.symm ne13)).other W39 (Ne.symm ne13)).other W43 (Ne.symm ne13))
  have f56 := (((((V17.other W22 nqb2_b5_4).other W30 nqb2_b6_4).other W34 (Ne.symm ne18)).other W39 (Ne.symm ne18)).other W43 (Ne.symm ne18))
  have ne57 : a1 ≠ b3_4 := Nat.ne_of_lt (Nat.lt_of_lt_of_le P17.lt sqb3_4)
  have f58 := (((((((Fq13_4.other W12 (Ne.symm nqb1_b3_4)).other W17 (Ne.symm nqb2_b3_4)).other W22 nqb3_b5_4).other W30 nqb3_b6_4).other W34 (Ne.symm ne57)).other W39 (Ne.symm ne57)).other W43 (Ne.symm ne57))
  have ne59 : a1 ≠ b4_4 := Nat.ne_of_lt (Nat.lt_of_lt_of_le P17.lt sqb4_4)
  have f60 := (((((((Fq14_4.other W12 (Ne.symm nqb1_b4_4)).other W17 (Ne.symm nqb2_b4_4)).other W22 nqb4_b5_4).other W30 nqb4_b6_4).other W34 (Ne.symm ne59)).other W39 (Ne.symm ne59)).other W43 (Ne.symm ne59))
  have f61 := ((((V22.other W30 nqb5_b6_4).other W34 (Ne.symm ne24)).other W39 (Ne.symm ne24)).other W43 (Ne.symm ne24))
  have f62 := (((V30.other W34 (Ne.symm ne31)).other W39 (Ne.symm ne31)).other W43 (Ne.symm ne31))
  exact ⟨b1_4, b2_4, b3_4, b4_4, b5_4, b6_4, rfl, (Fr.snoc X43 N39 ge_a1), ((K35.wr W39 (Or.inl (List.mem_of_getElem? (i := 0) rfl))).wr W43 (Or.inl (List.mem_of_getElem? (i := 0) rfl))), gqb1_4, s5, gqb2_4, s6, gqb3_4, s7, gqb4_4, s8, gqb5_4, s9, gqb6_4, s10, nqb1_b2_4, nqb1_b3_4, nqb1_b4_4, nqb1_b5_4, nqb1_b6_4, nqb2_b3_4, nqb2_b4_4, nqb2_b5_4, nqb2_b6_4, nqb3_b4_4, nqb3_b5_4, nqb3_b6_4, nqb4_b5_4, nqb4_b6_4, nqb5_b6_4, f51, f52, f45, f46, f47, f48, f49, f50, f53, f54, F43, f55, f56, f58, f60, f61, f62⟩
theorem ef_rm_addB1 (m : MethodId) (x0 : Addr) (x1 : Int32) (x2 : Int32) (x3 : UInt64) (x4 : Int32) : entryFrame m #[(.ref x0), (.int x1), (.int x2), (.double x3), (.int x4)] 7 = mkF m 0 #[.val (.ref x0), .val (.int x1), .val (.int x2), .val (.double x3), .second, .val (.int x4), .unset] [] := by first | (simp [entryFrame, mkF, argsToLocals, Value.category]; done) | rfl
set_option maxRecDepth 65536 in
set_option maxHeartbeats 40000000 in
theorem rm_addB1 (l : Launch) (Z : State) (a0 : Array Value) (hw : ∀ d ∈ tables_1, d.before a0 Z = true) (a1 : Addr) (i1 : Int32) (i2 : Int32) (d1 : UInt64) (i3 : Int32) (x1 : Addr) (x2 : Addr) (x3 : Addr) (x4 : Addr) (x5 : Addr) (x6 : Addr) (x7 : Addr) (g1 : Nat → Int32) (g2 : Nat → Int32) (g5 : Nat → UInt64) (g6 : Nat → Int32) (t1 : Int32) (t2 : Int32) (u1 : Int64) (k1 : Nat) (h0 : Heap) (n0 : Nat) (Z0 : n0 ≤ h0.size) (P0 : Exa Z h0 a1 "com/example/edgewise/edgewise/EdgeSlots") (P1 : Fld Z h0 a1 "com/example/edgewise/edgewise/EdgeSlots" "keyed" "Z" (.int (1 : Int32))) (P2 : Fld Z h0 a1 "com/example/edgewise/edgewise/EdgeSlots" "keptNumbers" "[J" (.ref x7)) (P3 : Fld Z h0 a1 "com/example/edgewise/edgewise/EdgeSlots" "sources" "[I" (.ref x1)) (P4 : Fld Z h0 a1 "com/example/edgewise/edgewise/EdgeSlots" "targets" "[I" (.ref x2)) (P5 : Fld Z h0 a1 "com/example/edgewise/edgewise/EdgeSlots" "sourcePositions" "[I" (.ref x3)) (P6 : Fld Z h0 a1 "com/example/edgewise/edgewise/EdgeSlots" "targetPositions" "[I" (.ref x4)) (P7 : Fld Z h0 a1 "com/example/edgewise/edgewise/EdgeSlots" "weights" "[D" (.ref x5)) (P8 : Fld Z h0 a1 "com/example/edgewise/edgewise/EdgeSlots" "keys" "[I" (.ref x6)) (P9 : ArF Z h0 x1 .int 4 (fun i => .int (g1 i))) (P10 : ArF Z h0 x2 .int 4 (fun i => .int (g2 i))) (P11 : ArF Z h0 x5 .double 4 (fun i => .double (g5 i))) (P12 : ArF Z h0 x6 .int 4 (fun i => .int (g6 i))) (P13 : Fld Z h0 a1 "com/example/edgewise/edgewise/EdgeSlots" "bound" "I" (.int t1)) (P14 : Fld Z h0 a1 "com/example/edgewise/edgewise/EdgeSlots" "count" "I" (.int t2)) (P15 : Fld Z h0 a1 "com/example/edgewise/edgewise/EdgeSlots" "nextNumber" "J" (.long u1)) (ne_x1_a1 : x1 ≠ a1) (ne_x2_a1 : x2 ≠ a1) (ne_x5_a1 : x5 ≠ a1) (ne_x6_a1 : x6 ≠ a1) (ne_x1_x2 : x1 ≠ x2) (ne_x1_x5 : x1 ≠ x5) (ne_x1_x6 : x1 ≠ x6) (ne_x2_x5 : x2 ≠ x5) (ne_x2_x6 : x2 ≠ x6) (ne_x5_x6 : x5 ≠ x6) (ge_a1 : n0 ≤ a1) (ge_x1 : n0 ≤ x1) (ge_x2 : n0 ≤ x2) (ge_x5 : n0 ≤ x5) (ge_x6 : n0 ≤ x6) (hk : t1.toInt = (k1 : Int)) (hbd : k1 < 4) :
    Con l Z (⟨"com/example/edgewise/edgewise/EdgeSlots", "add", "(IIDI)I"⟩ : MethodName) prog_12_method_2_code 7 (some .int) ({ frames := 0, cells := 0, slots := 0, locals := 0 } : Room) #[(.ref a1), (.int i1), (.int i2), (.double d1), (.int i3)] h0 (fun v h L => v = some (.int t1) ∧ Fr n0 L ∧ Keep h0 h [a1, x1, x2, x5, x6] ∧ Fld Z h a1 "com/example/edgewise/edgewise/EdgeSlots" "keyed" "Z" (.int (1 : Int32)) ∧ Fld Z h a1 "com/example/edgewise/edgewise/EdgeSlots" "keptNumbers" "[J" (.ref x7) ∧ Fld Z h a1 "com/example/edgewise/edgewise/EdgeSlots" "sources" "[I" (.ref x1) ∧ Fld Z h a1 "com/example/edgewise/edgewise/EdgeSlots" "targets" "[I" (.ref x2) ∧ Fld Z h a1 "com/example/edgewise/edgewise/EdgeSlots" "sourcePositions" "[I" (.ref x3) ∧ Fld Z h a1 "com/example/edgewise/edgewise/EdgeSlots" "targetPositions" "[I" (.ref x4) ∧ Fld Z h a1 "com/example/edgewise/edgewise/EdgeSlots" "weights" "[D" (.ref x5) ∧ Fld Z h a1 "com/example/edgewise/edgewise/EdgeSlots" "keys" "[I" (.ref x6) ∧ Fld Z h a1 "com/example/edgewise/edgewise/EdgeSlots" "bound" "I" (.int (t1 + (1 : Int32))) ∧ Fld Z h a1 "com/example/edgewise/edgewise/EdgeSlots" "count" "I" (.int (t2 + (1 : Int32))) ∧ Fld Z h a1 "com/example/edgewise/edgewise/EdgeSlots" "nextNumber" "J" (.long (u1 + (1 : Int64))) ∧ ArF Z h x1 .int 4 (fun i => .int ((upI g1 k1 i1) i)) ∧ ArF Z h x2 .int 4 (fun i => .int ((upI g2 k1 i2) i)) ∧ ArF Z h x5 .double 4 (fun i => .double ((upD g5 k1 d1) i)) ∧ ArF Z h x6 .int 4 (fun i => .int ((upI g6 k1 i3) i))) := by
  refine meet (y := (⟨"com/example/edgewise/edgewise/EdgeSlots", "add", "(IIDI)I"⟩ : MethodName)) (Q := fun v h L => v = some (.int t1) ∧ Fr n0 L ∧ Keep h0 h [a1, x1, x2, x5, x6] ∧ Fld Z h a1 "com/example/edgewise/edgewise/EdgeSlots" "keyed" "Z" (.int (1 : Int32)) ∧ Fld Z h a1 "com/example/edgewise/edgewise/EdgeSlots" "keptNumbers" "[J" (.ref x7) ∧ Fld Z h a1 "com/example/edgewise/edgewise/EdgeSlots" "sources" "[I" (.ref x1) ∧ Fld Z h a1 "com/example/edgewise/edgewise/EdgeSlots" "targets" "[I" (.ref x2) ∧ Fld Z h a1 "com/example/edgewise/edgewise/EdgeSlots" "sourcePositions" "[I" (.ref x3) ∧ Fld Z h a1 "com/example/edgewise/edgewise/EdgeSlots" "targetPositions" "[I" (.ref x4) ∧ Fld Z h a1 "com/example/edgewise/edgewise/EdgeSlots" "weights" "[D" (.ref x5) ∧ Fld Z h a1 "com/example/edgewise/edgewise/EdgeSlots" "keys" "[I" (.ref x6) ∧ Fld Z h a1 "com/example/edgewise/edgewise/EdgeSlots" "bound" "I" (.int (t1 + (1 : Int32))) ∧ Fld Z h a1 "com/example/edgewise/edgewise/EdgeSlots" "count" "I" (.int (t2 + (1 : Int32))) ∧ Fld Z h a1 "com/example/edgewise/edgewise/EdgeSlots" "nextNumber" "J" (.long (u1 + (1 : Int64))) ∧ ArF Z h x1 .int 4 (fun i => .int ((upI g1 k1 i1) i)) ∧ ArF Z h x2 .int 4 (fun i => .int ((upI g2 k1 i2) i)) ∧ ArF Z h x5 .double 4 (fun i => .double ((upD g5 k1 d1) i)) ∧ ArF Z h x6 .int 4 (fun i => .int ((upI g6 k1 i3) i))) (plainFor_of_name pn_com_example_edgewise_edgewise_EdgeSlots) (fun m => ef_rm_addB1 m a1 i1 i2 d1 i3) ?_
  intro p e s m below meth c T0 hx hby hml hZ hown hnm hret hlk X0 e0
  have N0 := Fr.nil n0
  have K0 := Keep.refl h0 [a1, x1, x2, x5, x6]
  refine g_aloadN X0 hx hby d3_0 (pc' := 1) rfl rfl rfl ?_
  refine g_getf X0 hx hby hZ hown (host := "") (Or.inl (wi hw 34 rfl)) Via.refl e0 P13 d3_1 (pc' := 4) rfl ?_
  intro T1 X1 e1
  refine g_istore X1 hx hby d3_4 (pc' := 6) rfl (L' := #[.val (.ref a1), .val (.int i1), .val (.int i2), .val (.double d1), .second, .val (.int i3), .val (.int t1)]) rfl ?_
  refine g_iload X1 hx hby d3_6 (pc' := 8) rfl rfl ?_
  refine g_aloadN X1 hx hby d3_8 (pc' := 9) rfl rfl rfl ?_
  refine g_getf X1 hx hby hZ hown (host := "") (Or.inl (wi hw 11 rfl)) Via.refl e1 P3 d3_9 (pc' := 12) rfl ?_
  intro T2 X2 e2
  refine Go.alen X2 hx hZ e2 P9 (z := (4 : Int32)) rfl (hb hby d3_12) (pc' := 13) rfl ?_
  have hc13 : ¬ (t1.toInt = (4 : Int)) := by omega
  refine g_icmpYes X2 hx hby d3_13 (pc' := 25) (feq (show ¬ (t1 = (4 : Int32)) from fun q => hc13 (congrArg Int32.toInt q))).2 (by decide) (by decide) ?_
  refine g_aloadN X2 hx hby d3_25 (pc' := 26) rfl rfl rfl ?_
  refine g_getf X2 hx hby hZ hown (host := "") (Or.inl (wi hw 11 rfl)) Via.refl e2 P3 d3_26 (pc' := 29) rfl ?_
  intro T3 X3 e3
  refine g_iload X3 hx hby d3_29 (pc' := 31) rfl rfl ?_
  refine g_iloadN X3 hx hby d3_31 (pc' := 32) rfl rfl ?_
  refine Go.iastore X3 hx hZ e3 P9 (k := k1) hk hbd (hb hby d3_32) (pc' := 33) rfl ?_
  intro T4 h4 X4 e4 W4 V4
  refine g_aloadN X4 hx hby d3_33 (pc' := 34) rfl rfl rfl ?_
  have f5 := (P4.other W4 (Or.inl (Ne.symm ne_x1_a1)))
  refine g_getf X4 hx hby hZ hown (host := "") (Or.inl (wi hw 13 rfl)) Via.refl e4 f5 d3_34 (pc' := 37) rfl ?_
  intro T6 X6 e6
  refine g_iload X6 hx hby d3_37 (pc' := 39) rfl rfl ?_
  refine g_iloadN X6 hx hby d3_39 (pc' := 40) rfl rfl ?_
  have f7 := (P10.other W4 (Ne.symm ne_x1_x2))
  refine Go.iastore X6 hx hZ e6 f7 (k := k1) hk hbd (hb hby d3_40) (pc' := 41) rfl ?_
  intro T8 h8 X8 e8 W8 V8
  refine g_aloadN X8 hx hby d3_41 (pc' := 42) rfl rfl rfl ?_
  have f9 := ((P7.other W4 (Or.inl (Ne.symm ne_x1_a1))).other W8 (Or.inl (Ne.symm ne_x2_a1)))
  refine g_getf X8 hx hby hZ hown (host := "") (Or.inl (wi hw 20 rfl)) Via.refl e8 f9 d3_42 (pc' := 45) rfl ?_
  intro T10 X10 e10
  refine g_iload X10 hx hby d3_45 (pc' := 47) rfl rfl ?_
  refine g_dloadN X10 hx hby d3_47 (pc' := 48) rfl rfl ?_
  have f11 := ((P11.other W4 (Ne.symm ne_x1_x5)).other W8 (Ne.symm ne_x2_x5))
  refine Go.dastore X10 hx hZ e10 f11 (k := k1) hk hbd (hb hby d3_48) (pc' := 49) rfl ?_
  intro T12 h12 X12 e12 W12 V12
  refine g_aloadN X12 hx hby d3_49 (pc' := 50) rfl rfl rfl ?_
  have f13 := (((P1.other W4 (Or.inl (Ne.symm ne_x1_a1))).other W8 (Or.inl (Ne.symm ne_x2_a1))).other W12 (Or.inl (Ne.symm ne_x5_a1)))
  refine g_getf X12 hx hby hZ hown (host := "") (Or.inl (wi hw 27 rfl)) Via.refl e12 f13 d3_50 (pc' := 53) rfl ?_
  intro T14 X14 e14
  have hc53 : ¬ ((1 : Int) = (0 : Int)) := by decide
  refine g_ifNo X14 hx hby d3_53 (pc' := 56) (feq (show ¬ ((1 : Int32) = (0 : Int32)) from fun q => hc53 (congrArg Int32.toInt q))).1 rfl ?_
  refine g_aloadN X14 hx hby d3_56 (pc' := 57) rfl rfl rfl ?_
  have f15 := (((P8.other W4 (Or.inl (Ne.symm ne_x1_a1))).other W8 (Or.inl (Ne.symm ne_x2_a1))).other W12 (Or.inl (Ne.symm ne_x5_a1)))
  refine g_getf X14 hx hby hZ hown (host := "") (Or.inl (wi hw 22 rfl)) Via.refl e14 f15 d3_57 (pc' := 60) rfl ?_
  intro T16 X16 e16
  refine g_iload X16 hx hby d3_60 (pc' := 62) rfl rfl ?_
  refine g_iload X16 hx hby d3_62 (pc' := 64) rfl rfl ?_
  have f17 := (((P12.other W4 (Ne.symm ne_x1_x6)).other W8 (Ne.symm ne_x2_x6)).other W12 (Ne.symm ne_x5_x6))
  refine Go.iastore X16 hx hZ e16 f17 (k := k1) hk hbd (hb hby d3_64) (pc' := 65) rfl ?_
  intro T18 h18 X18 e18 W18 V18
  have z19 : n0 ≤ h18.size := (Nat.le_trans (Nat.le_trans (Nat.le_trans (Nat.le_trans Z0 (Nat.le_of_eq (Wr.size W4).symm)) (Nat.le_of_eq (Wr.size W8).symm)) (Nat.le_of_eq (Wr.size W12).symm)) (Nat.le_of_eq (Wr.size W18).symm))
  have K20 : Keep h0 h18 [a1, x1, x2, x5, x6] := ((((K0.wr W4 (Or.inl (List.mem_of_getElem? (i := 1) rfl))).wr W8 (Or.inl (List.mem_of_getElem? (i := 2) rfl))).wr W12 (Or.inl (List.mem_of_getElem? (i := 3) rfl))).wr W18 (Or.inl (List.mem_of_getElem? (i := 4) rfl)))
  refine g_aloadN X18 hx hby d3_65 (pc' := 66) rfl rfl rfl ?_
  refine g_iload X18 hx hby d3_66 (pc' := 68) rfl rfl ?_
  refine g_iconst X18 hx hby d3_68 (pc' := 69) rfl (z := (1 : Int32)) rfl ?_
  refine g_iadd X18 hx hby d3_69 (pc' := 70) rfl rfl ?_
  have f21 := ((((P13.other W4 (Or.inl (Ne.symm ne_x1_a1))).other W8 (Or.inl (Ne.symm ne_x2_a1))).other W12 (Or.inl (Ne.symm ne_x5_a1))).other W18 (Or.inl (Ne.symm ne_x6_a1)))
  have f22 := ((((P0.wr W4).wr W8).wr W12).wr W18)
  refine g_putf X18 hx hby hZ hown (host := "") (Or.inl (wi hw 34 rfl)) Via.refl e18 f21 f22 (Or.inl (wi hw 35 rfl)) (wi hw 2 rfl) (ty := .int) (by decide) rfl rfl d3_70 (pc' := 73) rfl ?_
  intro T23 h23 X23 e23 W23 F23
  refine g_aloadN X23 hx hby d3_73 (pc' := 74) rfl rfl rfl ?_
  refine g_dup X23 hx hby d3_74 (pc' := 75) rfl rfl ?_
  have f24 := (((((P14.other W4 (Or.inl (Ne.symm ne_x1_a1))).other W8 (Or.inl (Ne.symm ne_x2_a1))).other W12 (Or.inl (Ne.symm ne_x5_a1))).other W18 (Or.inl (Ne.symm ne_x6_a1))).other W23 (Or.inr (slot_ne (Or.inl (wi hw 70 rfl)) (Or.inl (wi hw 35 rfl)) (by decide) (t := .int) (t' := .int) (by decide) (by decide))))
  refine g_getf X23 hx hby hZ hown (host := "") (Or.inl (wi hw 69 rfl)) Via.refl e23 f24 d3_75 (pc' := 78) rfl ?_
  intro T25 X25 e25
  refine g_iconst X25 hx hby d3_78 (pc' := 79) rfl (z := (1 : Int32)) rfl ?_
  refine g_iadd X25 hx hby d3_79 (pc' := 80) rfl rfl ?_
  have f26 := f22.wr W23
  refine g_putf X25 hx hby hZ hown (host := "") (Or.inl (wi hw 69 rfl)) Via.refl e25 f24 f26 (Or.inl (wi hw 70 rfl)) (wi hw 2 rfl) (ty := .int) (by decide) rfl rfl d3_80 (pc' := 83) rfl ?_
  intro T27 h27 X27 e27 W27 F27
  refine g_aloadN X27 hx hby d3_83 (pc' := 84) rfl rfl rfl ?_
  refine g_dup X27 hx hby d3_84 (pc' := 85) rfl rfl ?_
  have f28 := ((((((P15.other W4 (Or.inl (Ne.symm ne_x1_a1))).other W8 (Or.inl (Ne.symm ne_x2_a1))).other W12 (Or.inl (Ne.symm ne_x5_a1))).other W18 (Or.inl (Ne.symm ne_x6_a1))).other W23 (Or.inr (slot_ne (Or.inl (wi hw 72 rfl)) (Or.inl (wi hw 35 rfl)) (by decide) (t := .long) (t' := .int) (by decide) (by decide)))).other W27 (Or.inr (slot_ne (Or.inl (wi hw 72 rfl)) (Or.inl (wi hw 70 rfl)) (by decide) (t := .long) (t' := .int) (by decide) (by decide))))
  refine g_getf X27 hx hby hZ hown (host := "") (Or.inl (wi hw 71 rfl)) Via.refl e27 f28 d3_85 (pc' := 88) rfl ?_
  intro T29 X29 e29
  refine Go.of (fun _ k => XS.lconst X29.here hx rfl (hb hby d3_88) k) ?_
  show Go p.tables e below s _ _ _ (T29.setTop (mkF m 89 #[.val (.ref a1), .val (.int i1), .val (.int i2), .val (.double d1), .second, .val (.int i3), .val (.int t1)] [(.long (1 : Int64)), (.long u1), (.ref a1)]))
  refine g_ladd X29 hx hby d3_89 (pc' := 90) rfl rfl ?_
  have f30 := f26.wr W27
  refine g_putf X29 hx hby hZ hown (host := "") (Or.inl (wi hw 71 rfl)) Via.refl e29 f28 f30 (Or.inl (wi hw 72 rfl)) (wi hw 2 rfl) (ty := .long) (by decide) rfl rfl d3_90 (pc' := 93) rfl ?_
  intro T31 h31 X31 e31 W31 F31
  have N31 := (Fr.snoc X31 (Fr.snoc X27 (Fr.snoc X23 (Fr.snoc X18 (Fr.snoc X12 (Fr.snoc X8 (Fr.snoc X4 N0 ge_x1) ge_x2) ge_x5) ge_x6) ge_a1) ge_a1) ge_a1)
  refine g_iload X31 hx hby d3_93 (pc' := 95) rfl rfl ?_
  refine Go.retI X31 hx hlk hret (hb hby d3_95) (by decide) (by decide) ?_
  rw [e31]
  have f32 := ((((f13.other W18 (Or.inl (Ne.symm ne_x6_a1))).other W23 (Or.inr (slot_ne (Or.inr (wi hw 28 rfl)) (Or.inl (wi hw 35 rfl)) (by decide) (t := .boolean) (t' := .int) (by decide) (by decide)))).other W27 (Or.inr (slot_ne (Or.inr (wi hw 28 rfl)) (Or.inl (wi hw 70 rfl)) (by decide) (t := .boolean) (t' := .int) (by decide) (by decide)))).other W31 (Or.inr (slot_ne (Or.inr (wi hw 28 rfl)) (Or.inl (wi hw 72 rfl)) (by decide) (t := .boolean) (t' := .long) (by decide) (by decide))))
  have f33 := (((((((P2.other W4 (Or.inl (Ne.symm ne_x1_a1))).other W8 (Or.inl (Ne.symm ne_x2_a1))).other W12 (Or.inl (Ne.symm ne_x5_a1))).other W18 (Or.inl (Ne.symm ne_x6_a1))).other W23 (Or.inr (slot_ne (Or.inl (wi hw 26 rfl)) (Or.inl (wi hw 35 rfl)) (by decide) (t := (.array .long)) (t' := .int) (by decide) (by decide)))).other W27 (Or.inr (slot_ne (Or.inl (wi hw 26 rfl)) (Or.inl (wi hw 70 rfl)) (by decide) (t := (.array .long)) (t' := .int) (by decide) (by decide)))).other W31 (Or.inr (slot_ne (Or.inl (wi hw 26 rfl)) (Or.inl (wi hw 72 rfl)) (by decide) (t := (.array .long)) (t' := .long) (by decide) (by decide))))
  have f34 := (((((((P3.other W4 (Or.inl (Ne.symm ne_x1_a1))).other W8 (Or.inl (Ne.symm ne_x2_a1))).other W12 (Or.inl (Ne.symm ne_x5_a1))).other W18 (Or.inl (Ne.symm ne_x6_a1))).other W23 (Or.inr (slot_ne (Or.inl (wi hw 12 rfl)) (Or.inl (wi hw 35 rfl)) (by decide) (t := (.array .int)) (t' := .int) (by decide) (by decide)))).other W27 (Or.inr (slot_ne (Or.inl (wi hw 12 rfl)) (Or.inl (wi hw 70 rfl)) (by decide) (t := (.array .int)) (t' := .int) (by decide) (by decide)))).other W31 (Or.inr (slot_ne (Or.inl (wi hw 12 rfl)) (Or.inl (wi hw 72 rfl)) (by decide) (t := (.array .int)) (t' := .long) (by decide) (by decide))))
  have f35 := ((((((f5.other W8 (Or.inl (Ne.symm ne_x2_a1))).other W12 (Or.inl (Ne.symm ne_x5_a1))).other W18 (Or.inl (Ne.symm ne_x6_a1))).other W23 (Or.inr (slot_ne (Or.inl (wi hw 14 rfl)) (Or.inl (wi hw 35 rfl)) (by decide) (t := (.array .int)) (t' := .int) (by decide) (by decide)))).other W27 (Or.inr (slot_ne (Or.inl (wi hw 14 rfl)) (Or.inl (wi hw 70 rfl)) (by decide) (t := (.array .int)) (t' := .int) (by decide) (by decide)))).other W31 (Or.inr (slot_ne (Or.inl (wi hw 14 rfl)) (Or.inl (wi hw 72 rfl)) (by decide) (t := (.array .int)) (t' := .long) (by decide) (by decide))))
  have f36 := (((((((P5.other W4 (Or.inl (Ne.symm ne_x1_a1))).other W8 (Or.inl (Ne.symm ne_x2_a1))).other W12 (Or.inl (Ne.symm ne_x5_a1))).other W18 (Or.inl (Ne.symm ne_x6_a1))).other W23 (Or.inr (slot_ne (Or.inl (wi hw 16 rfl)) (Or.inl (wi hw 35 rfl)) (by decide) (t := (.array .int)) (t' := .int) (by decide) (by decide)))).other W27 (Or.inr (slot_ne (Or.inl (wi hw 16 rfl)) (Or.inl (wi hw 70 rfl)) (by decide) (t := (.array .int)) (t' := .int) (by decide) (by decide)))).other W31 (Or.inr (slot_ne (Or.inl (wi hw 16 rfl)) (Or.inl (wi hw 72 rfl)) (by decide) (t := (.array .int)) (t' := .long) (by decide) (by decide))))
  have f37 := (((((((P6.other W4 (Or.inl (Ne.symm ne_x1_a1))).other W8 (Or.inl (Ne.symm ne_x2_a1))).other W12 (Or.inl (Ne.symm ne_x5_a1))).other W18 (Or.inl (Ne.symm ne_x6_a1))).other W23 (Or.inr (slot_ne (Or.inl (wi hw 18 rfl)) (Or.inl (wi hw 35 rfl)) (by decide) (t := (.array .int)) (t' := .int) (by decide) (by decide)))).other W27 (Or.inr (slot_ne (Or.inl (wi hw 18 rfl)) (Or.inl (wi hw 70 rfl)) (by decide) (t := (.array .int)) (t' := .int) (by decide) (by decide)))).other W31 (Or.inr (slot_ne (Or.inl (wi hw 18 rfl)) (Or.inl (wi hw 72 rfl)) (by decide) (t := (.array .int)) (t' := .long) (by decide) (by decide))))
  have f38 := (((((f9.other W12 (Or.inl (Ne.symm ne_x5_a1))).other W18 (Or.inl (Ne.symm ne_x6_a1))).other W23 (Or.inr (slot_ne (Or.inl (wi hw 21 rfl)) (Or.inl (wi hw 35 rfl)) (by decide) (t := (.array .double)) (t' := .int) (by decide) (by decide)))).other W27 (Or.inr (slot_ne (Or.inl (wi hw 21 rfl)) (Or.inl (wi hw 70 rfl)) (by decide) (t := (.array .double)) (t' := .int) (by decide) (by decide)))).other W31 (Or.inr (slot_ne (Or.inl (wi hw 21 rfl)) (Or.inl (wi hw 72 rfl)) (by decide) (t := (.array .double)) (t' := .long) (by decide) (by decide))))
  have f39 := ((((f15.other W18 (Or.inl (Ne.symm ne_x6_a1))).other W23 (Or.inr (slot_ne (Or.inl (wi hw 23 rfl)) (Or.inl (wi hw 35 rfl)) (by decide) (t := (.array .int)) (t' := .int) (by decide) (by decide)))).other W27 (Or.inr (slot_ne (Or.inl (wi hw 23 rfl)) (Or.inl (wi hw 70 rfl)) (by decide) (t := (.array .int)) (t' := .int) (by decide) (by decide)))).other W31 (Or.inr (slot_ne (Or.inl (wi hw 23 rfl)) (Or.inl (wi hw 72 rfl)) (by decide) (t := (.array .int)) (t' := .long) (by decide) (by decide))))
  have f40 := ((F23.other W27 (Or.inr (slot_ne (Or.inl (wi hw 35 rfl)) (Or.inl (wi hw 70 rfl)) (by decide) (t := .int) (t' := .int) (by decide) (by decide)))).other W31 (Or.inr (slot_ne (Or.inl (wi hw 35 rfl)) (Or.inl (wi hw 72 rfl)) (by decide) (t := .int) (t' := .long) (by decide) (by decide))))
  have f41 := (F27.other W31 (Or.inr (slot_ne (Or.inl (wi hw 70 rfl)) (Or.inl (wi hw 72 rfl)) (by decide) (t := .int) (t' := .long) (by decide) (by decide))))
  have f42 := ((((((V4.other W8 ne_x1_x2).other W12 ne_x1_x5).other W18 ne_x1_x6).other W23 ne_x1_a1).other W27 ne_x1_a1).other W31 ne_x1_a1)
  have f43 := (((((V8.other W12 ne_x2_x5).other W18 ne_x2_x6).other W23 ne_x2_a1).other W27 ne_x2_a1).other W31 ne_x2_a1)
  have f44 := ((((V12.other W18 ne_x5_x6).other W23 ne_x5_a1).other W27 ne_x5_a1).other W31 ne_x5_a1)
  have f45 := (((V18.other W23 ne_x6_a1).other W27 ne_x6_a1).other W31 ne_x6_a1)
  exact ⟨rfl, N31, (((K20.wr W23 (Or.inl (List.mem_of_getElem? (i := 0) rfl))).wr W27 (Or.inl (List.mem_of_getElem? (i := 0) rfl))).wr W31 (Or.inl (List.mem_of_getElem? (i := 0) rfl))), f32, f33, f34, f35, f36, f37, f38, f39, f40, f41, F31, f42, f43, f44, f45⟩
theorem d11_0 : decode prog_12_method_3_code 0 = .ok (.aload_n 0, 1) := by decide +kernel
theorem d11_1 : decode prog_12_method_3_code 1 = .ok (.getfield 7, 3) := by decide +kernel
theorem d11_4 : decode prog_12_method_3_code 4 = .ok (.iload_n 1, 1) := by decide +kernel
theorem d11_5 : decode prog_12_method_3_code 5 = .ok (.iconst (-1), 1) := by decide +kernel
theorem d11_6 : decode prog_12_method_3_code 6 = .ok (.iastore, 1) := by decide +kernel
theorem d11_7 : decode prog_12_method_3_code 7 = .ok (.aload_n 0, 1) := by decide +kernel
theorem d11_8 : decode prog_12_method_3_code 8 = .ok (.getfield 13, 3) := by decide +kernel
theorem d11_11 : decode prog_12_method_3_code 11 = .ok (.iload_n 1, 1) := by decide +kernel
theorem d11_12 : decode prog_12_method_3_code 12 = .ok (.iconst (-1), 1) := by decide +kernel
theorem d11_13 : decode prog_12_method_3_code 13 = .ok (.iastore, 1) := by decide +kernel
theorem d11_14 : decode prog_12_method_3_code 14 = .ok (.aload_n 0, 1) := by decide +kernel
theorem d11_15 : decode prog_12_method_3_code 15 = .ok (.dup, 1) := by decide +kernel
theorem d11_16 : decode prog_12_method_3_code 16 = .ok (.getfield 51, 3) := by decide +kernel
theorem d11_19 : decode prog_12_method_3_code 19 = .ok (.iconst 1, 1) := by decide +kernel
theorem d11_20 : decode prog_12_method_3_code 20 = .ok (.isub, 1) := by decide +kernel
theorem d11_21 : decode prog_12_method_3_code 21 = .ok (.putfield 51, 3) := by decide +kernel
theorem d11_24 : decode prog_12_method_3_code 24 = .ok (.return_, 1) := by decide +kernel
theorem ef_rm_remove4 (m : MethodId) (x0 : Addr) (x1 : Int32) : entryFrame m #[(.ref x0), (.int x1)] 2 = mkF m 0 #[.val (.ref x0), .val (.int x1)] [] := by first | (simp [entryFrame, mkF, argsToLocals, Value.category]; done) | rfl
set_option maxRecDepth 65536 in
set_option maxHeartbeats 40000000 in
theorem rm_remove4 (l : Launch) (Z : State) (a0 : Array Value) (hw : ∀ d ∈ tables_1, d.before a0 Z = true) (a1 : Addr) (i1 : Int32) (x1 : Addr) (x2 : Addr) (g1 : Nat → Int32) (g2 : Nat → Int32) (t1 : Int32) (t2 : Int32) (k1 : Nat) (h0 : Heap) (n0 : Nat) (Z0 : n0 ≤ h0.size) (P0 : Exa Z h0 a1 "com/example/edgewise/edgewise/EdgeSlots") (P1 : Fld Z h0 a1 "com/example/edgewise/edgewise/EdgeSlots" "sources" "[I" (.ref x1)) (P2 : Fld Z h0 a1 "com/example/edgewise/edgewise/EdgeSlots" "targets" "[I" (.ref x2)) (P3 : ArF Z h0 x1 .int 4 (fun i => .int (g1 i))) (P4 : ArF Z h0 x2 .int 4 (fun i => .int (g2 i))) (P5 : Fld Z h0 a1 "com/example/edgewise/edgewise/EdgeSlots" "bound" "I" (.int t1)) (P6 : Fld Z h0 a1 "com/example/edgewise/edgewise/EdgeSlots" "count" "I" (.int t2)) (ne_x1_a1 : x1 ≠ a1) (ne_x2_a1 : x2 ≠ a1) (ne_x1_x2 : x1 ≠ x2) (ge_a1 : n0 ≤ a1) (ge_x1 : n0 ≤ x1) (ge_x2 : n0 ≤ x2) (hk : i1.toInt = (k1 : Int)) (hbd : k1 < 4) :
    Con l Z (⟨"com/example/edgewise/edgewise/EdgeSlots", "remove", "(I)V"⟩ : MethodName) prog_12_method_3_code 2 none ({ frames := 0, cells := 0, slots := 0, locals := 0 } : Room) #[(.ref a1), (.int i1)] h0 (fun v h L => v = none ∧ Fr n0 L ∧ Keep h0 h [a1, x1, x2] ∧ Fld Z h a1 "com/example/edgewise/edgewise/EdgeSlots" "sources" "[I" (.ref x1) ∧ Fld Z h a1 "com/example/edgewise/edgewise/EdgeSlots" "targets" "[I" (.ref x2) ∧ ArF Z h x1 .int 4 (fun i => .int ((upI g1 k1 (-1 : Int32)) i)) ∧ ArF Z h x2 .int 4 (fun i => .int ((upI g2 k1 (-1 : Int32)) i)) ∧ Fld Z h a1 "com/example/edgewise/edgewise/EdgeSlots" "bound" "I" (.int t1) ∧ Fld Z h a1 "com/example/edgewise/edgewise/EdgeSlots" "count" "I" (.int (t2 - (1 : Int32)))) := by
  refine meet (y := (⟨"com/example/edgewise/edgewise/EdgeSlots", "remove", "(I)V"⟩ : MethodName)) (Q := fun v h L => v = none ∧ Fr n0 L ∧ Keep h0 h [a1, x1, x2] ∧ Fld Z h a1 "com/example/edgewise/edgewise/EdgeSlots" "sources" "[I" (.ref x1) ∧ Fld Z h a1 "com/example/edgewise/edgewise/EdgeSlots" "targets" "[I" (.ref x2) ∧ ArF Z h x1 .int 4 (fun i => .int ((upI g1 k1 (-1 : Int32)) i)) ∧ ArF Z h x2 .int 4 (fun i => .int ((upI g2 k1 (-1 : Int32)) i)) ∧ Fld Z h a1 "com/example/edgewise/edgewise/EdgeSlots" "bound" "I" (.int t1) ∧ Fld Z h a1 "com/example/edgewise/edgewise/EdgeSlots" "count" "I" (.int (t2 - (1 : Int32)))) (plainFor_of_name pn_com_example_edgewise_edgewise_EdgeSlots) (fun m => ef_rm_remove4 m a1 i1) ?_
  intro p e s m below meth c T0 hx hby hml hZ hown hnm hret hlk X0 e0
  have N0 := Fr.nil n0
  have K0 := Keep.refl h0 [a1, x1, x2]
  refine g_aloadN X0 hx hby d11_0 (pc' := 1) rfl rfl rfl ?_
  refine g_getf X0 hx hby hZ hown (host := "") (Or.inl (wi hw 11 rfl)) Via.refl e0 P1 d11_1 (pc' := 4) rfl ?_
  intro T1 X1 e1
  refine g_iloadN X1 hx hby d11_4 (pc' := 5) rfl rfl ?_
  refine g_iconst X1 hx hby d11_5 (pc' := 6) rfl (z := (-1 : Int32)) rfl ?_
  refine Go.iastore X1 hx hZ e1 P3 (k := k1) hk hbd (hb hby d11_6) (pc' := 7) rfl ?_
  intro T2 h2 X2 e2 W2 V2
  refine g_aloadN X2 hx hby d11_7 (pc' := 8) rfl rfl rfl ?_
  have f3 := (P2.other W2 (Or.inl (Ne.symm ne_x1_a1)))
  refine g_getf X2 hx hby hZ hown (host := "") (Or.inl (wi hw 13 rfl)) Via.refl e2 f3 d11_8 (pc' := 11) rfl ?_
  intro T4 X4 e4
  refine g_iloadN X4 hx hby d11_11 (pc' := 12) rfl rfl ?_
  refine g_iconst X4 hx hby d11_12 (pc' := 13) rfl (z := (-1 : Int32)) rfl ?_
  have f5 := (P4.other W2 (Ne.symm ne_x1_x2))
  refine Go.iastore X4 hx hZ e4 f5 (k := k1) hk hbd (hb hby d11_13) (pc' := 14) rfl ?_
  intro T6 h6 X6 e6 W6 V6
  refine g_aloadN X6 hx hby d11_14 (pc' := 15) rfl rfl rfl ?_
  refine g_dup X6 hx hby d11_15 (pc' := 16) rfl rfl ?_
  have f7 := ((P6.other W2 (Or.inl (Ne.symm ne_x1_a1))).other W6 (Or.inl (Ne.symm ne_x2_a1)))
  refine g_getf X6 hx hby hZ hown (host := "") (Or.inl (wi hw 69 rfl)) Via.refl e6 f7 d11_16 (pc' := 19) rfl ?_
  intro T8 X8 e8
  refine g_iconst X8 hx hby d11_19 (pc' := 20) rfl (z := (1 : Int32)) rfl ?_
  refine g_isub X8 hx hby d11_20 (pc' := 21) rfl rfl ?_
  have f9 := ((P0.wr W2).wr W6)
  refine g_putf X8 hx hby hZ hown (host := "") (Or.inl (wi hw 69 rfl)) Via.refl e8 f7 f9 (Or.inl (wi hw 70 rfl)) (wi hw 2 rfl) (ty := .int) (by decide) rfl rfl d11_21 (pc' := 24) rfl ?_
  intro T10 h10 X10 e10 W10 F10
  refine Go.retV X10 hx hlk hret (hb hby d11_24) rfl (by decide) (by decide) ?_
  rw [e10]
  have f11 := (((P1.other W2 (Or.inl (Ne.symm ne_x1_a1))).other W6 (Or.inl (Ne.symm ne_x2_a1))).other W10 (Or.inr (slot_ne (Or.inl (wi hw 12 rfl)) (Or.inl (wi hw 70 rfl)) (by decide) (t := (.array .int)) (t' := .int) (by decide) (by decide))))
  have f12 := ((f3.other W6 (Or.inl (Ne.symm ne_x2_a1))).other W10 (Or.inr (slot_ne (Or.inl (wi hw 14 rfl)) (Or.inl (wi hw 70 rfl)) (by decide) (t := (.array .int)) (t' := .int) (by decide) (by decide))))
  have f13 := ((V2.other W6 ne_x1_x2).other W10 ne_x1_a1)
  have f14 := V6.other W10 ne_x2_a1
  have f15 := (((P5.other W2 (Or.inl (Ne.symm ne_x1_a1))).other W6 (Or.inl (Ne.symm ne_x2_a1))).other W10 (Or.inr (slot_ne (Or.inl (wi hw 35 rfl)) (Or.inl (wi hw 70 rfl)) (by decide) (t := .int) (t' := .int) (by decide) (by decide))))
  exact ⟨rfl, (Fr.snoc X10 (Fr.snoc X6 (Fr.snoc X2 N0 ge_x1) ge_x2) ge_a1), (((K0.wr W2 (Or.inl (List.mem_of_getElem? (i := 1) rfl))).wr W6 (Or.inl (List.mem_of_getElem? (i := 2) rfl))).wr W10 (Or.inl (List.mem_of_getElem? (i := 0) rfl))), f11, f12, f13, f14, f15, F10⟩
theorem d12_0 : decode prog_12_method_5_code 0 = .ok (.aload_n 0, 1) := by decide +kernel
theorem d12_1 : decode prog_12_method_5_code 1 = .ok (.getfield 51, 3) := by decide +kernel
theorem d12_4 : decode prog_12_method_5_code 4 = .ok (.ireturn, 1) := by decide +kernel
theorem ef_rm_count (m : MethodId) (x0 : Addr) : entryFrame m #[(.ref x0)] 1 = mkF m 0 #[.val (.ref x0)] [] := by first | (simp [entryFrame, mkF, argsToLocals, Value.category]; done) | rfl
set_option maxRecDepth 65536 in
set_option maxHeartbeats 40000000 in
theorem rm_count (l : Launch) (Z : State) (a0 : Array Value) (hw : ∀ d ∈ tables_1, d.before a0 Z = true) (a1 : Addr) (t1 : Int32) (h0 : Heap) (n0 : Nat) (Z0 : n0 ≤ h0.size) (P0 : Fld Z h0 a1 "com/example/edgewise/edgewise/EdgeSlots" "count" "I" (.int t1)) :
    Con l Z (⟨"com/example/edgewise/edgewise/EdgeSlots", "count", "()I"⟩ : MethodName) prog_12_method_5_code 1 (some .int) ({ frames := 0, cells := 0, slots := 0, locals := 0 } : Room) #[(.ref a1)] h0 (fun v h L => v = some (.int t1) ∧ Fr n0 L ∧ h = h0) := by
  refine meet (y := (⟨"com/example/edgewise/edgewise/EdgeSlots", "count", "()I"⟩ : MethodName)) (Q := fun v h L => v = some (.int t1) ∧ Fr n0 L ∧ h = h0) (plainFor_of_name pn_com_example_edgewise_edgewise_EdgeSlots) (fun m => ef_rm_count m a1) ?_
  intro p e s m below meth c T0 hx hby hml hZ hown hnm hret hlk X0 e0
  have N0 := Fr.nil n0
  refine g_aloadN X0 hx hby d12_0 (pc' := 1) rfl rfl rfl ?_
  refine g_getf X0 hx hby hZ hown (host := "") (Or.inl (wi hw 69 rfl)) Via.refl e0 P0 d12_1 (pc' := 4) rfl ?_
  intro T1 X1 e1
  refine Go.retI X1 hx hlk hret (hb hby d12_4) (by decide) (by decide) ?_
  exact ⟨rfl, N0, e1⟩
theorem d13_0 : decode prog_12_method_4_code 0 = .ok (.aload_n 0, 1) := by decide +kernel
theorem d13_1 : decode prog_12_method_4_code 1 = .ok (.getfield 37, 3) := by decide +kernel
theorem d13_4 : decode prog_12_method_4_code 4 = .ok (.ireturn, 1) := by decide +kernel
theorem ef_rm_bound (m : MethodId) (x0 : Addr) : entryFrame m #[(.ref x0)] 1 = mkF m 0 #[.val (.ref x0)] [] := by first | (simp [entryFrame, mkF, argsToLocals, Value.category]; done) | rfl
set_option maxRecDepth 65536 in
set_option maxHeartbeats 40000000 in
theorem rm_bound (l : Launch) (Z : State) (a0 : Array Value) (hw : ∀ d ∈ tables_1, d.before a0 Z = true) (a1 : Addr) (t1 : Int32) (h0 : Heap) (n0 : Nat) (Z0 : n0 ≤ h0.size) (P0 : Fld Z h0 a1 "com/example/edgewise/edgewise/EdgeSlots" "bound" "I" (.int t1)) :
    Con l Z (⟨"com/example/edgewise/edgewise/EdgeSlots", "bound", "()I"⟩ : MethodName) prog_12_method_4_code 1 (some .int) ({ frames := 0, cells := 0, slots := 0, locals := 0 } : Room) #[(.ref a1)] h0 (fun v h L => v = some (.int t1) ∧ Fr n0 L ∧ h = h0) := by
  refine meet (y := (⟨"com/example/edgewise/edgewise/EdgeSlots", "bound", "()I"⟩ : MethodName)) (Q := fun v h L => v = some (.int t1) ∧ Fr n0 L ∧ h = h0) (plainFor_of_name pn_com_example_edgewise_edgewise_EdgeSlots) (fun m => ef_rm_bound m a1) ?_
  intro p e s m below meth c T0 hx hby hml hZ hown hnm hret hlk X0 e0
  have N0 := Fr.nil n0
  refine g_aloadN X0 hx hby d13_0 (pc' := 1) rfl rfl rfl ?_
  refine g_getf X0 hx hby hZ hown (host := "") (Or.inl (wi hw 34 rfl)) Via.refl e0 P0 d13_1 (pc' := 4) rfl ?_
  intro T1 X1 e1
  refine Go.retI X1 hx hlk hret (hb hby d13_4) (by decide) (by decide) ?_
  exact ⟨rfl, N0, e1⟩
theorem d14_0 : decode prog_12_method_9_code 0 = .ok (.aload_n 0, 1) := by decide +kernel
theorem d14_1 : decode prog_12_method_9_code 1 = .ok (.getfield 7, 3) := by decide +kernel
theorem d14_4 : decode prog_12_method_9_code 4 = .ok (.iload_n 1, 1) := by decide +kernel
theorem d14_5 : decode prog_12_method_9_code 5 = .ok (.iaload, 1) := by decide +kernel
theorem d14_6 : decode prog_12_method_9_code 6 = .ok (.ireturn, 1) := by decide +kernel
theorem ef_rm_source (m : MethodId) (x0 : Addr) (x1 : Int32) : entryFrame m #[(.ref x0), (.int x1)] 2 = mkF m 0 #[.val (.ref x0), .val (.int x1)] [] := by first | (simp [entryFrame, mkF, argsToLocals, Value.category]; done) | rfl
set_option maxRecDepth 65536 in
set_option maxHeartbeats 40000000 in
theorem rm_source (l : Launch) (Z : State) (a0 : Array Value) (hw : ∀ d ∈ tables_1, d.before a0 Z = true) (a1 : Addr) (i1 : Int32) (x1 : Addr) (g1 : Nat → Int32) (k1 : Nat) (h0 : Heap) (n0 : Nat) (Z0 : n0 ≤ h0.size) (P0 : Fld Z h0 a1 "com/example/edgewise/edgewise/EdgeSlots" "sources" "[I" (.ref x1)) (P1 : ArF Z h0 x1 .int 4 (fun i => .int (g1 i))) (hk : i1.toInt = (k1 : Int)) (hbd : k1 < 4) :
    Con l Z (⟨"com/example/edgewise/edgewise/EdgeSlots", "source", "(I)I"⟩ : MethodName) prog_12_method_9_code 2 (some .int) ({ frames := 0, cells := 0, slots := 0, locals := 0 } : Room) #[(.ref a1), (.int i1)] h0 (fun v h L => v = some (.int (g1 k1)) ∧ Fr n0 L ∧ h = h0) := by
  refine meet (y := (⟨"com/example/edgewise/edgewise/EdgeSlots", "source", "(I)I"⟩ : MethodName)) (Q := fun v h L => v = some (.int (g1 k1)) ∧ Fr n0 L ∧ h = h0) (plainFor_of_name pn_com_example_edgewise_edgewise_EdgeSlots) (fun m => ef_rm_source m a1 i1) ?_
  intro p e s m below meth c T0 hx hby hml hZ hown hnm hret hlk X0 e0
  have N0 := Fr.nil n0
  refine g_aloadN X0 hx hby d14_0 (pc' := 1) rfl rfl rfl ?_
  refine g_getf X0 hx hby hZ hown (host := "") (Or.inl (wi hw 11 rfl)) Via.refl e0 P0 d14_1 (pc' := 4) rfl ?_
  intro T1 X1 e1
  refine g_iloadN X1 hx hby d14_4 (pc' := 5) rfl rfl ?_
  refine Go.iaload X1 hx hZ e1 P1 (k := k1) hk hbd rfl (hb hby d14_5) (pc' := 6) rfl ?_
  refine Go.retI X1 hx hlk hret (hb hby d14_6) (by decide) (by decide) ?_
  exact ⟨rfl, N0, e1⟩
theorem d15_0 : decode prog_12_method_10_code 0 = .ok (.aload_n 0, 1) := by decide +kernel
theorem d15_1 : decode prog_12_method_10_code 1 = .ok (.getfield 13, 3) := by decide +kernel
theorem d15_4 : decode prog_12_method_10_code 4 = .ok (.iload_n 1, 1) := by decide +kernel
theorem d15_5 : decode prog_12_method_10_code 5 = .ok (.iaload, 1) := by decide +kernel
theorem d15_6 : decode prog_12_method_10_code 6 = .ok (.ireturn, 1) := by decide +kernel
theorem ef_rm_target (m : MethodId) (x0 : Addr) (x1 : Int32) : entryFrame m #[(.ref x0), (.int x1)] 2 = mkF m 0 #[.val (.ref x0), .val (.int x1)] [] := by first | (simp [entryFrame, mkF, argsToLocals, Value.category]; done) | rfl
set_option maxRecDepth 65536 in
set_option maxHeartbeats 40000000 in
theorem rm_target (l : Launch) (Z : State) (a0 : Array Value) (hw : ∀ d ∈ tables_1, d.before a0 Z = true) (a1 : Addr) (i1 : Int32) (x1 : Addr) (g1 : Nat → Int32) (k1 : Nat) (h0 : Heap) (n0 : Nat) (Z0 : n0 ≤ h0.size) (P0 : Fld Z h0 a1 "com/example/edgewise/edgewise/EdgeSlots" "targets" "[I" (.ref x1)) (P1 : ArF Z h0 x1 .int 4 (fun i => .int (g1 i))) (hk : i1.toInt = (k1 : Int)) (hbd : k1 < 4) :
    Con l Z (⟨"com/example/edgewise/edgewise/EdgeSlots", "target", "(I)I"⟩ : MethodName) prog_12_method_10_code 2 (some .int) ({ frames := 0, cells := 0, slots := 0, locals := 0 } : Room) #[(.ref a1), (.int i1)] h0 (fun v h L => v = some (.int (g1 k1)) ∧ Fr n0 L ∧ h = h0) := by
  refine meet (y := (⟨"com/example/edgewise/edgewise/EdgeSlots", "target", "(I)I"⟩ : MethodName)) (Q := fun v h L => v = some (.int (g1 k1)) ∧ Fr n0 L ∧ h = h0) (plainFor_of_name pn_com_example_edgewise_edgewise_EdgeSlots) (fun m => ef_rm_target m a1 i1) ?_
  intro p e s m below meth c T0 hx hby hml hZ hown hnm hret hlk X0 e0
  have N0 := Fr.nil n0
  refine g_aloadN X0 hx hby d15_0 (pc' := 1) rfl rfl rfl ?_
  refine g_getf X0 hx hby hZ hown (host := "") (Or.inl (wi hw 13 rfl)) Via.refl e0 P0 d15_1 (pc' := 4) rfl ?_
  intro T1 X1 e1
  refine g_iloadN X1 hx hby d15_4 (pc' := 5) rfl rfl ?_
  refine Go.iaload X1 hx hZ e1 P1 (k := k1) hk hbd rfl (hb hby d15_5) (pc' := 6) rfl ?_
  refine Go.retI X1 hx hlk hret (hb hby d15_6) (by decide) (by decide) ?_
  exact ⟨rfl, N0, e1⟩
theorem pd6 : parseMethodDescriptor "(Z)V" = some ⟨[.boolean], none⟩ := by decide +kernel
theorem pd7 : parseMethodDescriptor "(IIDI)I" = some ⟨[.int, .int, .double, .int], some .int⟩ := by decide +kernel
theorem pd8 : parseMethodDescriptor "()I" = some ⟨[], some .int⟩ := by decide +kernel
theorem ef_rm0 (m : MethodId) (x0 : Int32) (x1 : Int32) (x2 : Int32) (x3 : Int32) (x4 : Int32) (x5 : Int32) : entryFrame m #[(.int x0), (.int x1), (.int x2), (.int x3), (.int x4), (.int x5)] maxLocals = mkF m 0 #[.val (.int x0), .val (.int x1), .val (.int x2), .val (.int x3), .val (.int x4), .val (.int x5), .unset, .unset, .unset, .unset, .unset, .unset, .unset, .unset, .unset, .unset, .unset, .unset, .unset, .unset, .unset, .unset] [] := by first | (simp [entryFrame, mkF, argsToLocals, Value.category, maxLocals]; done) | rfl
theorem pn_com_example_edgewise_edgewise_EdgeSlotsRemovePinLaw : plainName "com/example/edgewise/edgewise/EdgeSlotsRemovePinLaw" = true := by first | (simp [plainName, overriddenIn]; done) | decide +kernel
set_option maxRecDepth 65536 in
set_option maxHeartbeats 40000000 in
theorem rm0 (l : Launch) (Z : State) (a0 : Array Value) (hw : ∀ d ∈ tables_1, d.before a0 Z = true) (ws : List Jvm.Cond) (p1 p2 p3 p4 p5 p6 : Int32) (h0 : Heap) (n0 : Nat) (Z0 : n0 ≤ h0.size)  :
    MetFree l x (head1 (Jvm.Cond.code x code maxLocals ret :: ws) room_1) (fun a U => a = #[(.int p1), (.int p2), (.int p3), (.int p4), (.int p5), (.int p6)] ∧ Z.Warmed39 U.vm ∧ U.heap = h0) (fun _ _ _ _ _ => True) (fun _ U o U' => ∃ v L, o = .returned v ∧ (fun v h L => v = some (.int 1) ∧ Fr n0 L) v U'.heap L ∧ FrameEnd U o U' L room_1.cells room_1.slots) := by
  refine meet (y := x) (Q := fun v h L => v = some (.int 1) ∧ Fr n0 L) (plainFor_of_name pn_com_example_edgewise_edgewise_EdgeSlotsRemovePinLaw) (fun m => ef_rm0 m p1 p2 p3 p4 p5 p6) ?_
  intro p e s m below meth c T0 hx hby hml hZ hown hnm hret hlk X0 e0
  have N0 := Fr.nil n0
  have hml : c.maxLocals = 22 := hml
  refine g_iload X0 hx hby at_0 (pc' := 2) rfl rfl ?_
  refine g_iconst X0 hx hby at_2 (pc' := 3) rfl (z := (1 : Int32)) rfl ?_
  refine g_iand X0 hx hby at_3 (pc' := 4) rfl rfl ?_
  by_cases hc4 : (p6 &&& (1 : Int32)).toInt = (0 : Int)
  · refine g_ifYes X0 hx hby at_4 (pc' := 11) (teq (show (p6 &&& (1 : Int32)) = (0 : Int32) from Int32.toInt_inj.mp hc4)).1 (by decide) (by decide) ?_
    refine g_iconst X0 hx hby at_11 (pc' := 12) rfl (z := (0 : Int32)) rfl ?_
    refine g_istore X0 hx hby at_12 (pc' := 14) rfl (L' := #[.val (.int p1), .val (.int p2), .val (.int p3), .val (.int p4), .val (.int p5), .val (.int p6), .val (.int (0 : Int32)), .unset, .unset, .unset, .unset, .unset, .unset, .unset, .unset, .unset, .unset, .unset, .unset, .unset, .unset, .unset]) rfl ?_
    refine g_iloadN X0 hx hby at_14 (pc' := 15) rfl rfl ?_
    refine g_ldcI X0 hx hby hZ hown (wi hw 0 rfl) at_15 (pc' := 17) rfl ?_
    refine g_iand X0 hx hby at_17 (pc' := 18) rfl rfl ?_
    generalize hv1 : (p1 &&& (2147483647 : Int32)) = v1
    refine g_istore X0 hx hby at_18 (pc' := 20) rfl (L' := #[.val (.int p1), .val (.int p2), .val (.int p3), .val (.int p4), .val (.int p5), .val (.int p6), .val (.int (0 : Int32)), .val (.int v1), .unset, .unset, .unset, .unset, .unset, .unset, .unset, .unset, .unset, .unset, .unset, .unset, .unset, .unset]) rfl ?_
    refine g_iloadN X0 hx hby at_20 (pc' := 21) rfl rfl ?_
    refine g_ldcI X0 hx hby hZ hown (wi hw 0 rfl) at_21 (pc' := 23) rfl ?_
    refine g_iand X0 hx hby at_23 (pc' := 24) rfl rfl ?_
    generalize hv2 : (p2 &&& (2147483647 : Int32)) = v2
    refine g_istore X0 hx hby at_24 (pc' := 26) rfl (L' := #[.val (.int p1), .val (.int p2), .val (.int p3), .val (.int p4), .val (.int p5), .val (.int p6), .val (.int (0 : Int32)), .val (.int v1), .val (.int v2), .unset, .unset, .unset, .unset, .unset, .unset, .unset, .unset, .unset, .unset, .unset, .unset, .unset]) rfl ?_
    refine g_iloadN X0 hx hby at_26 (pc' := 27) rfl rfl ?_
    refine g_ldcI X0 hx hby hZ hown (wi hw 0 rfl) at_27 (pc' := 29) rfl ?_
    refine g_iand X0 hx hby at_29 (pc' := 30) rfl rfl ?_
    generalize hv3 : (p3 &&& (2147483647 : Int32)) = v3
    refine g_istore X0 hx hby at_30 (pc' := 32) rfl (L' := #[.val (.int p1), .val (.int p2), .val (.int p3), .val (.int p4), .val (.int p5), .val (.int p6), .val (.int (0 : Int32)), .val (.int v1), .val (.int v2), .val (.int v3), .unset, .unset, .unset, .unset, .unset, .unset, .unset, .unset, .unset, .unset, .unset, .unset]) rfl ?_
    refine g_iloadN X0 hx hby at_32 (pc' := 33) rfl rfl ?_
    refine g_ldcI X0 hx hby hZ hown (wi hw 0 rfl) at_33 (pc' := 35) rfl ?_
    refine g_iand X0 hx hby at_35 (pc' := 36) rfl rfl ?_
    generalize hv4 : (p4 &&& (2147483647 : Int32)) = v4
    refine g_istore X0 hx hby at_36 (pc' := 38) rfl (L' := #[.val (.int p1), .val (.int p2), .val (.int p3), .val (.int p4), .val (.int p5), .val (.int p6), .val (.int (0 : Int32)), .val (.int v1), .val (.int v2), .val (.int v3), .val (.int v4), .unset, .unset, .unset, .unset, .unset, .unset, .unset, .unset, .unset, .unset, .unset]) rfl ?_
    refine g_iload X0 hx hby at_38 (pc' := 40) rfl rfl ?_
    have hc40 : (0 : Int) = (0 : Int) := by decide
    refine g_ifYes X0 hx hby at_40 (pc' := 48) (teq (show (0 : Int32) = (0 : Int32) from Int32.toInt_inj.mp hc40)).1 (by decide) (by decide) ?_
    refine g_iconst X0 hx hby at_48 (pc' := 49) rfl (z := (0 : Int32)) rfl ?_
    refine g_istore X0 hx hby at_49 (pc' := 51) rfl (L' := #[.val (.int p1), .val (.int p2), .val (.int p3), .val (.int p4), .val (.int p5), .val (.int p6), .val (.int (0 : Int32)), .val (.int v1), .val (.int v2), .val (.int v3), .val (.int v4), .val (.int (0 : Int32)), .unset, .unset, .unset, .unset, .unset, .unset, .unset, .unset, .unset, .unset]) rfl ?_
    refine g_iload X0 hx hby at_51 (pc' := 53) rfl rfl ?_
    have hc53 : (0 : Int) = (0 : Int) := by decide
    refine g_ifYes X0 hx hby at_53 (pc' := 61) (teq (show (0 : Int32) = (0 : Int32) from Int32.toInt_inj.mp hc53)).1 (by decide) (by decide) ?_
    refine g_iconst X0 hx hby at_61 (pc' := 62) rfl (z := (0 : Int32)) rfl ?_
    refine g_istore X0 hx hby at_62 (pc' := 64) rfl (L' := #[.val (.int p1), .val (.int p2), .val (.int p3), .val (.int p4), .val (.int p5), .val (.int p6), .val (.int (0 : Int32)), .val (.int v1), .val (.int v2), .val (.int v3), .val (.int v4), .val (.int (0 : Int32)), .val (.int (0 : Int32)), .unset, .unset, .unset, .unset, .unset, .unset, .unset, .unset, .unset]) rfl ?_
    have hk0 : True := trivial
    refine g_new X0 hx hby hZ hown (wi hw 1 rfl) (wi hw 2 rfl) (wi hw 3 rfl) e0 at_64 (pc' := 67) rfl (by decide) (by decide) ?_
    intro T5 h5 b5 X5 e5 E5 hb5 A5 D5
    have g6 : n0 ≤ b5 := by rw [hb5]; exact Z0
    have F7 : Fld Z h5 b5 "com/example/edgewise/edgewise/EdgeSlots" "sources" "[I" .null := D5 (Or.inl (wi hw 12 rfl)) (ty := (.array .int)) (by decide)
    have F8 : Fld Z h5 b5 "com/example/edgewise/edgewise/EdgeSlots" "targets" "[I" .null := D5 (Or.inl (wi hw 14 rfl)) (ty := (.array .int)) (by decide)
    have F9 : Fld Z h5 b5 "com/example/edgewise/edgewise/EdgeSlots" "sourcePositions" "[I" .null := D5 (Or.inl (wi hw 16 rfl)) (ty := (.array .int)) (by decide)
    have F10 : Fld Z h5 b5 "com/example/edgewise/edgewise/EdgeSlots" "targetPositions" "[I" .null := D5 (Or.inl (wi hw 18 rfl)) (ty := (.array .int)) (by decide)
    have F11 : Fld Z h5 b5 "com/example/edgewise/edgewise/EdgeSlots" "weights" "[D" .null := D5 (Or.inl (wi hw 21 rfl)) (ty := (.array .double)) (by decide)
    have F12 : Fld Z h5 b5 "com/example/edgewise/edgewise/EdgeSlots" "keys" "[I" .null := D5 (Or.inl (wi hw 23 rfl)) (ty := (.array .int)) (by decide)
    have F13 : Fld Z h5 b5 "com/example/edgewise/edgewise/EdgeSlots" "keptNumbers" "[J" .null := D5 (Or.inl (wi hw 26 rfl)) (ty := (.array .long)) (by decide)
    have F14 : Fld Z h5 b5 "com/example/edgewise/edgewise/EdgeSlots" "keyed" "Z" (.int (0 : Int32)) := D5 (Or.inr (wi hw 28 rfl)) (ty := .boolean) (by decide)
    have F15 : Fld Z h5 b5 "com/example/edgewise/edgewise/EdgeSlots" "bound" "I" (.int (0 : Int32)) := D5 (Or.inl (wi hw 35 rfl)) (ty := .int) (by decide)
    have F16 : Fld Z h5 b5 "com/example/edgewise/edgewise/EdgeSlots" "count" "I" (.int (0 : Int32)) := D5 (Or.inl (wi hw 70 rfl)) (ty := .int) (by decide)
    have F17 : Fld Z h5 b5 "com/example/edgewise/edgewise/EdgeSlots" "nextNumber" "J" (.long (0 : Int64)) := D5 (Or.inl (wi hw 72 rfl)) (ty := .long) (by decide)
    refine g_dup X5 hx hby at_67 (pc' := 68) rfl rfl ?_
    refine g_iload X5 hx hby at_68 (pc' := 70) rfl rfl ?_
    refine Go.callI X5 hx hZ hown rfl (wi hw 4 rfl) (wi hw 5 rfl) (wi hw 3 rfl) (wi hw 6 rfl) (by decide) e5 (a := b5) (argsL := [(.int (0 : Int32))]) (rest := [(.ref b5)]) (W := 1) (rm_init0 l Z a0 hw b5 h5 n0 (Nat.le_trans Z0 E5.1) A5 F7 F8 F9 F10 F11 F12 F13 F14 F15 F16 F17 g6) (hb hby at_70) (by rw [hml]; rfl) rfl pd6 rfl rfl (by decide) (by decide) (by decide) (by decide) ?_
    intro v18 T18 L18 X18 hQ18
    obtain ⟨h18, e18⟩ : ∃ z, T18.heap = z := ⟨_, rfl⟩
    rw [e18] at hQ18
    obtain ⟨b1_18, b2_18, b3_18, b4_18, b5_18, b6_18, b7_18, rfl, Nq18, Kq18, gqb1_18, sqb1_18, gqb2_18, sqb2_18, gqb3_18, sqb3_18, gqb4_18, sqb4_18, gqb5_18, sqb5_18, gqb6_18, sqb6_18, gqb7_18, sqb7_18, nqb1_b2_18, nqb1_b3_18, nqb1_b4_18, nqb1_b5_18, nqb1_b6_18, nqb1_b7_18, nqb2_b3_18, nqb2_b4_18, nqb2_b5_18, nqb2_b6_18, nqb2_b7_18, nqb3_b4_18, nqb3_b5_18, nqb3_b6_18, nqb3_b7_18, nqb4_b5_18, nqb4_b6_18, nqb4_b7_18, nqb5_b6_18, nqb5_b7_18, nqb6_b7_18, Fq0_18, Fq1_18, Fq2_18, Fq3_18, Fq4_18, Fq5_18, Fq6_18, Fq7_18, Fq8_18, Fq9_18, Fq10_18, Fq11_18, Fq12_18, Fq13_18, Fq14_18, Fq15_18, Fq16_18, Fq17_18⟩ := hQ18
    have N18 := Fr.app N0 Nq18
    refine Go.void (pc' := 73) rfl ?_
    refine g_astore X18 hx hby at_73 (pc' := 75) rfl rfl (L' := #[.val (.int p1), .val (.int p2), .val (.int p3), .val (.int p4), .val (.int p5), .val (.int p6), .val (.int (0 : Int32)), .val (.int v1), .val (.int v2), .val (.int v3), .val (.int v4), .val (.int (0 : Int32)), .val (.int (0 : Int32)), .val (.ref b5), .unset, .unset, .unset, .unset, .unset, .unset, .unset, .unset]) rfl ?_
    refine g_aload X18 hx hby at_75 (pc' := 77) rfl rfl rfl ?_
    refine g_iload X18 hx hby at_77 (pc' := 79) rfl rfl ?_
    refine g_iload X18 hx hby at_79 (pc' := 81) rfl rfl ?_
    refine Go.of (fun _ k => XS.dconst1 X18.here hx rfl (hb hby at_81) (v := FP.dconst1) rfl k) ?_
    show Go p.tables e below s _ _ _ (T18.setTop (mkF m 82 #[.val (.int p1), .val (.int p2), .val (.int p3), .val (.int p4), .val (.int p5), .val (.int p6), .val (.int (0 : Int32)), .val (.int v1), .val (.int v2), .val (.int v3), .val (.int v4), .val (.int (0 : Int32)), .val (.int (0 : Int32)), .val (.ref b5), .unset, .unset, .unset, .unset, .unset, .unset, .unset, .unset] [(.double FP.dconst1), (.int v2), (.int v1), (.ref b5)]))
    refine g_iload X18 hx hby at_82 (pc' := 84) rfl rfl ?_
    have f20 := A5.keep Kq18
    have ne21 : b5 ≠ b1_18 := Nat.ne_of_lt (Nat.lt_of_lt_of_le F17.lt sqb1_18)
    have ne22 : b5 ≠ b2_18 := Nat.ne_of_lt (Nat.lt_of_lt_of_le F17.lt sqb2_18)
    have ne23 : b5 ≠ b3_18 := Nat.ne_of_lt (Nat.lt_of_lt_of_le F17.lt sqb3_18)
    have ne24 : b5 ≠ b4_18 := Nat.ne_of_lt (Nat.lt_of_lt_of_le F17.lt sqb4_18)
    have ne25 : b5 ≠ b5_18 := Nat.ne_of_lt (Nat.lt_of_lt_of_le F17.lt sqb5_18)
    have ne26 : b5 ≠ b6_18 := Nat.ne_of_lt (Nat.lt_of_lt_of_le F17.lt sqb6_18)
    refine Go.callV X18 hx hZ hown (wi hw 29 rfl) (wi hw 30 rfl) (notFace_of_selects (args := #[]) (mvT hZ (wi hw 32 rfl))) (wi hw 32 rfl) (wi hw 31 rfl) (wi hw 3 rfl) (wi hw 33 rfl) (by decide) e18 (a := b5) (argsL := [(.int v1), (.int v2), (.double FP.dconst1), (.int (0 : Int32))]) (rest := []) (W := 0) f20 (rm_addA0 l Z a0 hw b5 v1 v2 FP.dconst1 (0 : Int32) b1_18 b2_18 b3_18 b4_18 b5_18 b6_18 b7_18 (fun _ => (0 : Int32)) (fun _ => (0 : Int32)) (fun _ => (0 : Int32)) (fun _ => (0 : Int32)) (fun _ => (0 : UInt64)) (fun _ => (0 : Int32)) (0 : Int32) (0 : Int64) h18 n0 (Nat.le_trans (Nat.le_trans Z0 E5.1) Kq18.1) f20 Fq7_18 Fq6_18 Fq0_18 Fq1_18 Fq2_18 Fq3_18 Fq4_18 Fq5_18 Fq11_18 Fq12_18 Fq13_18 Fq14_18 Fq15_18 Fq16_18 Fq8_18 Fq9_18 Fq10_18 (Ne.symm ne21) (Ne.symm ne22) (Ne.symm ne23) (Ne.symm ne24) (Ne.symm ne25) (Ne.symm ne26) g6) (hb hby at_84) (by rw [hml]; rfl) rfl pd7 rfl rfl (by decide) (by decide) (by decide) (by decide) ?_
    intro v19 T19 L19 X19 hQ19
    obtain ⟨h19, e19⟩ : ∃ z, T19.heap = z := ⟨_, rfl⟩
    rw [e19] at hQ19
    obtain ⟨b1_19, b2_19, b3_19, b4_19, b5_19, rfl, Nq19, Kq19, gqb1_19, sqb1_19, gqb2_19, sqb2_19, gqb3_19, sqb3_19, gqb4_19, sqb4_19, gqb5_19, sqb5_19, nqb1_b2_19, nqb1_b3_19, nqb1_b4_19, nqb1_b5_19, nqb2_b3_19, nqb2_b4_19, nqb2_b5_19, nqb3_b4_19, nqb3_b5_19, nqb4_b5_19, Fq0_19, Fq1_19, Fq2_19, Fq3_19, Fq4_19, Fq5_19, Fq6_19, Fq7_19, Fq8_19, Fq9_19, Fq10_19, Fq11_19, Fq12_19, Fq13_19, Fq14_19, Fq15_19⟩ := hQ19
    have N19 := Fr.app N18 Nq19
    have Fq9_19 : Fld Z h19 b5 "com/example/edgewise/edgewise/EdgeSlots" "count" "I" (.int (1 : Int32)) := Fq9_19
    have Fq10_19 : Fld Z h19 b5 "com/example/edgewise/edgewise/EdgeSlots" "nextNumber" "J" (.long (1 : Int64)) := Fq10_19
    refine Go.push (pc' := 87) rfl ?_
    refine g_pop X19 hx hby at_87 (pc' := 88) rfl rfl ?_
    refine g_aload X19 hx hby at_88 (pc' := 90) rfl rfl rfl ?_
    refine g_iload X19 hx hby at_90 (pc' := 92) rfl rfl ?_
    refine g_iload X19 hx hby at_92 (pc' := 94) rfl rfl ?_
    refine g_ldcD X19 hx hby hZ hown (wi hw 73 rfl) at_94 (pc' := 97) rfl ?_
    refine g_iload X19 hx hby at_97 (pc' := 99) rfl rfl ?_
    have f28 := f20.keep Kq19
    have ne29 : b5 ≠ b1_19 := Nat.ne_of_lt (Nat.lt_of_lt_of_le f20.lt sqb1_19)
    have ne30 : b5 ≠ b2_19 := Nat.ne_of_lt (Nat.lt_of_lt_of_le f20.lt sqb2_19)
    have ne31 : b5 ≠ b5_19 := Nat.ne_of_lt (Nat.lt_of_lt_of_le f20.lt sqb5_19)
    refine Go.callV X19 hx hZ hown (wi hw 29 rfl) (wi hw 30 rfl) (notFace_of_selects (args := #[]) (mvT hZ (wi hw 32 rfl))) (wi hw 32 rfl) (wi hw 31 rfl) (wi hw 3 rfl) (wi hw 33 rfl) (by decide) e19 (a := b5) (argsL := [(.int v3), (.int v4), (.double (4611686018427387904 : UInt64)), (.int (0 : Int32))]) (rest := []) (W := 0) f28 (rm_addB0 l Z a0 hw b5 v3 v4 (4611686018427387904 : UInt64) (0 : Int32) b1_19 b2_19 b3_19 b4_19 b5_19 b6_18 b7_18 (upI (fun _ => (0 : Int32)) 0 v1) (upI (fun _ => (0 : Int32)) 0 v2) (upD (fun _ => (0 : UInt64)) 0 FP.dconst1) (1 : Int32) (1 : Int32) (1 : Int64) 1 h19 n0 (Nat.le_trans (Nat.le_trans (Nat.le_trans Z0 E5.1) Kq18.1) Kq19.1) f28 Fq0_19 Fq1_19 Fq2_19 Fq3_19 Fq4_19 Fq5_19 Fq6_19 Fq7_19 Fq11_19 Fq12_19 Fq15_19 Fq8_19 Fq9_19 Fq10_19 (Ne.symm ne29) (Ne.symm ne30) (Ne.symm ne31) nqb1_b2_19 nqb1_b5_19 nqb2_b5_19 g6 gqb1_19 gqb2_19 gqb5_19 rfl (by decide)) (hb hby at_99) (by rw [hml]; rfl) rfl pd7 rfl rfl (by decide) (by decide) (by decide) (by decide) ?_
    intro v27 T27 L27 X27 hQ27
    obtain ⟨h27, e27⟩ : ∃ z, T27.heap = z := ⟨_, rfl⟩
    rw [e27] at hQ27
    obtain ⟨rfl, Nq27, Kq27, Fq0_27, Fq1_27, Fq2_27, Fq3_27, Fq4_27, Fq5_27, Fq6_27, Fq7_27, Fq8_27, Fq9_27, Fq10_27, Fq11_27, Fq12_27, Fq13_27⟩ := hQ27
    have N27 := Fr.app N19 Nq27
    have Fq8_27 : Fld Z h27 b5 "com/example/edgewise/edgewise/EdgeSlots" "bound" "I" (.int (2 : Int32)) := Fq8_27
    have Fq9_27 : Fld Z h27 b5 "com/example/edgewise/edgewise/EdgeSlots" "count" "I" (.int (2 : Int32)) := Fq9_27
    have Fq10_27 : Fld Z h27 b5 "com/example/edgewise/edgewise/EdgeSlots" "nextNumber" "J" (.long (2 : Int64)) := Fq10_27
    refine Go.push (pc' := 102) rfl ?_
    refine g_pop X27 hx hby at_102 (pc' := 103) rfl rfl ?_
    refine g_iload X27 hx hby at_103 (pc' := 105) rfl rfl ?_
    refine g_iconst X27 hx hby at_105 (pc' := 106) rfl (z := (1 : Int32)) rfl ?_
    refine g_iand X27 hx hby at_106 (pc' := 107) rfl rfl ?_
    generalize hv32 : (p5 &&& (1 : Int32)) = v32
    refine g_istore X27 hx hby at_107 (pc' := 109) rfl (L' := #[.val (.int p1), .val (.int p2), .val (.int p3), .val (.int p4), .val (.int p5), .val (.int p6), .val (.int (0 : Int32)), .val (.int v1), .val (.int v2), .val (.int v3), .val (.int v4), .val (.int (0 : Int32)), .val (.int (0 : Int32)), .val (.ref b5), .val (.int v32), .unset, .unset, .unset, .unset, .unset, .unset, .unset]) rfl ?_
    have hr : v32 = (0 : Int32) ∨ v32 = (1 : Int32) := by
      have : v32.toInt = 0 ∨ v32.toInt = 1 := by rw [← hv32]; have : (p5 &&& (1 : Int32)).toInt = p5.toInt % 2 := c_mask _ _ 1 (by decide) (by decide); have : -2147483648 ≤ (p5 &&& (1 : Int32)).toInt ∧ (p5 &&& (1 : Int32)).toInt < 2147483648 := rng32 _; have : -2147483648 ≤ p5.toInt ∧ p5.toInt < 2147483648 := rng32 _; omega
      exact this.imp (fun h => Int32.toInt_inj.mp h) (fun h => Int32.toInt_inj.mp h)
    clear hv32
    rcases hr with rfl | rfl
    · show Go p.tables e below s _ _ _ (T27.setTop (mkF m 109 #[.val (.int p1), .val (.int p2), .val (.int p3), .val (.int p4), .val (.int p5), .val (.int p6), .val (.int (0 : Int32)), .val (.int v1), .val (.int v2), .val (.int v3), .val (.int v4), .val (.int (0 : Int32)), .val (.int (0 : Int32)), .val (.ref b5), .val (.int (0 : Int32)), .unset, .unset, .unset, .unset, .unset, .unset, .unset] []))
      refine g_aload X27 hx hby at_109 (pc' := 111) rfl rfl rfl ?_
      refine g_iload X27 hx hby at_111 (pc' := 113) rfl rfl ?_
      have f34 := f28.keep Kq27
      refine Go.callV X27 hx hZ hown (wi hw 74 rfl) (wi hw 75 rfl) (notFace_of_selects (args := #[]) (mvT hZ (wi hw 77 rfl))) (wi hw 77 rfl) (wi hw 76 rfl) (wi hw 3 rfl) (wi hw 78 rfl) (by decide) e27 (a := b5) (argsL := [(.int (0 : Int32))]) (rest := []) (W := 0) f34 (rm_remove4 l Z a0 hw b5 (0 : Int32) b1_19 b2_19 (upI (upI (fun _ => (0 : Int32)) 0 v1) 1 v3) (upI (upI (fun _ => (0 : Int32)) 0 v2) 1 v4) (2 : Int32) (2 : Int32) 0 h27 n0 (Nat.le_trans (Nat.le_trans (Nat.le_trans (Nat.le_trans Z0 E5.1) Kq18.1) Kq19.1) Kq27.1) f34 Fq2_27 Fq3_27 Fq11_27 Fq12_27 Fq8_27 Fq9_27 (Ne.symm ne29) (Ne.symm ne30) nqb1_b2_19 g6 gqb1_19 gqb2_19 rfl (by decide)) (hb hby at_113) (by rw [hml]; rfl) rfl pd5 rfl rfl (by decide) (by decide) (by decide) (by decide) ?_
      intro v33 T33 L33 X33 hQ33
      obtain ⟨h33, e33⟩ : ∃ z, T33.heap = z := ⟨_, rfl⟩
      rw [e33] at hQ33
      obtain ⟨rfl, Nq33, Kq33, Fq0_33, Fq1_33, Fq2_33, Fq3_33, Fq4_33, Fq5_33⟩ := hQ33
      have N33 := Fr.app N27 Nq33
      have Fq5_33 : Fld Z h33 b5 "com/example/edgewise/edgewise/EdgeSlots" "count" "I" (.int (1 : Int32)) := Fq5_33
      refine Go.void (pc' := 116) rfl ?_
      refine g_iload X33 hx hby at_116 (pc' := 118) rfl rfl ?_
      have hc118 : (0 : Int) = (0 : Int) := by decide
      refine g_ifNo X33 hx hby at_118 (pc' := 121) (teq (show (0 : Int32) = (0 : Int32) from Int32.toInt_inj.mp hc118)).2 rfl ?_
      refine g_iconst X33 hx hby at_121 (pc' := 122) rfl (z := (-1 : Int32)) rfl ?_
      refine g_goto X33 hx hby at_122 (pc' := 127) (by decide) (by decide) ?_
      refine g_istore X33 hx hby at_127 (pc' := 129) rfl (L' := #[.val (.int p1), .val (.int p2), .val (.int p3), .val (.int p4), .val (.int p5), .val (.int p6), .val (.int (0 : Int32)), .val (.int v1), .val (.int v2), .val (.int v3), .val (.int v4), .val (.int (0 : Int32)), .val (.int (0 : Int32)), .val (.ref b5), .val (.int (0 : Int32)), .val (.int (-1 : Int32)), .unset, .unset, .unset, .unset, .unset, .unset]) rfl ?_
      refine g_iload X33 hx hby at_129 (pc' := 131) rfl rfl ?_
      have hc131 : (0 : Int) = (0 : Int) := by decide
      refine g_ifNo X33 hx hby at_131 (pc' := 134) (teq (show (0 : Int32) = (0 : Int32) from Int32.toInt_inj.mp hc131)).2 rfl ?_
      refine g_iconst X33 hx hby at_134 (pc' := 135) rfl (z := (-1 : Int32)) rfl ?_
      refine g_goto X33 hx hby at_135 (pc' := 140) (by decide) (by decide) ?_
      refine g_istore X33 hx hby at_140 (pc' := 142) rfl (L' := #[.val (.int p1), .val (.int p2), .val (.int p3), .val (.int p4), .val (.int p5), .val (.int p6), .val (.int (0 : Int32)), .val (.int v1), .val (.int v2), .val (.int v3), .val (.int v4), .val (.int (0 : Int32)), .val (.int (0 : Int32)), .val (.ref b5), .val (.int (0 : Int32)), .val (.int (-1 : Int32)), .val (.int (-1 : Int32)), .unset, .unset, .unset, .unset, .unset]) rfl ?_
      refine g_iload X33 hx hby at_142 (pc' := 144) rfl rfl ?_
      refine g_iconst X33 hx hby at_144 (pc' := 145) rfl (z := (1 : Int32)) rfl ?_
      have hc145 : ¬ ((0 : Int) = (1 : Int)) := by decide
      refine g_icmpYes X33 hx hby at_145 (pc' := 152) (feq (show ¬ ((0 : Int32) = (1 : Int32)) from fun q => hc145 (congrArg Int32.toInt q))).2 (by decide) (by decide) ?_
      refine g_iload X33 hx hby at_152 (pc' := 154) rfl rfl ?_
      refine g_istore X33 hx hby at_154 (pc' := 156) rfl (L' := #[.val (.int p1), .val (.int p2), .val (.int p3), .val (.int p4), .val (.int p5), .val (.int p6), .val (.int (0 : Int32)), .val (.int v1), .val (.int v2), .val (.int v3), .val (.int v4), .val (.int (0 : Int32)), .val (.int (0 : Int32)), .val (.ref b5), .val (.int (0 : Int32)), .val (.int (-1 : Int32)), .val (.int (-1 : Int32)), .val (.int v3), .unset, .unset, .unset, .unset]) rfl ?_
      refine g_iload X33 hx hby at_156 (pc' := 158) rfl rfl ?_
      refine g_iconst X33 hx hby at_158 (pc' := 159) rfl (z := (1 : Int32)) rfl ?_
      have hc159 : ¬ ((0 : Int) = (1 : Int)) := by decide
      refine g_icmpYes X33 hx hby at_159 (pc' := 166) (feq (show ¬ ((0 : Int32) = (1 : Int32)) from fun q => hc159 (congrArg Int32.toInt q))).2 (by decide) (by decide) ?_
      refine g_iload X33 hx hby at_166 (pc' := 168) rfl rfl ?_
      refine g_istore X33 hx hby at_168 (pc' := 170) rfl (L' := #[.val (.int p1), .val (.int p2), .val (.int p3), .val (.int p4), .val (.int p5), .val (.int p6), .val (.int (0 : Int32)), .val (.int v1), .val (.int v2), .val (.int v3), .val (.int v4), .val (.int (0 : Int32)), .val (.int (0 : Int32)), .val (.ref b5), .val (.int (0 : Int32)), .val (.int (-1 : Int32)), .val (.int (-1 : Int32)), .val (.int v3), .val (.int v4), .unset, .unset, .unset]) rfl ?_
      refine g_aload X33 hx hby at_170 (pc' := 172) rfl rfl rfl ?_
      have f36 := f34.keep Kq33
      refine Go.callV X33 hx hZ hown (wi hw 79 rfl) (wi hw 80 rfl) (notFace_of_selects (args := #[]) (mvT hZ (wi hw 82 rfl))) (wi hw 82 rfl) (wi hw 81 rfl) (wi hw 3 rfl) (wi hw 83 rfl) (by decide) e33 (a := b5) (argsL := []) (rest := []) (W := 0) f36 (rm_count l Z a0 hw b5 (1 : Int32) h33 n0 (Nat.le_trans (Nat.le_trans (Nat.le_trans (Nat.le_trans (Nat.le_trans Z0 E5.1) Kq18.1) Kq19.1) Kq27.1) Kq33.1) Fq5_33) (hb hby at_172) (by rw [hml]; rfl) rfl pd8 rfl rfl (by decide) (by decide) (by decide) (by decide) ?_
      intro v35 T35 L35 X35 hQ35
      obtain ⟨rfl, Nq35, hh35⟩ := hQ35
      have N35 := Fr.app N33 Nq35
      refine Go.push (pc' := 175) rfl ?_
      refine g_iconst X35 hx hby at_175 (pc' := 176) rfl (z := (1 : Int32)) rfl ?_
      have hc176 : (1 : Int) = (1 : Int) := by decide
      refine g_icmpNo X35 hx hby at_176 (pc' := 179) (teq (show (1 : Int32) = (1 : Int32) from Int32.toInt_inj.mp hc176)).2 rfl ?_
      refine g_aload X35 hx hby at_179 (pc' := 181) rfl rfl rfl ?_
      refine Go.callV X35 hx hZ hown (wi hw 84 rfl) (wi hw 85 rfl) (notFace_of_selects (args := #[]) (mvT hZ (wi hw 87 rfl))) (wi hw 87 rfl) (wi hw 86 rfl) (wi hw 3 rfl) (wi hw 88 rfl) (by decide) hh35 (a := b5) (argsL := []) (rest := []) (W := 0) f36 (rm_bound l Z a0 hw b5 (2 : Int32) h33 n0 (Nat.le_trans (Nat.le_trans (Nat.le_trans (Nat.le_trans (Nat.le_trans Z0 E5.1) Kq18.1) Kq19.1) Kq27.1) Kq33.1) Fq4_33) (hb hby at_181) (by rw [hml]; rfl) rfl pd8 rfl rfl (by decide) (by decide) (by decide) (by decide) ?_
      intro v37 T37 L37 X37 hQ37
      obtain ⟨rfl, Nq37, hh37⟩ := hQ37
      have N37 := Fr.app N35 Nq37
      refine Go.push (pc' := 184) rfl ?_
      refine g_iconst X37 hx hby at_184 (pc' := 185) rfl (z := (2 : Int32)) rfl ?_
      have hc185 : (2 : Int) = (2 : Int) := by decide
      refine g_icmpNo X37 hx hby at_185 (pc' := 188) (teq (show (2 : Int32) = (2 : Int32) from Int32.toInt_inj.mp hc185)).2 rfl ?_
      refine g_iconst X37 hx hby at_188 (pc' := 189) rfl (z := (1 : Int32)) rfl ?_
      refine g_goto X37 hx hby at_189 (pc' := 193) (by decide) (by decide) ?_
      refine g_istore X37 hx hby at_193 (pc' := 195) rfl (L' := #[.val (.int p1), .val (.int p2), .val (.int p3), .val (.int p4), .val (.int p5), .val (.int p6), .val (.int (0 : Int32)), .val (.int v1), .val (.int v2), .val (.int v3), .val (.int v4), .val (.int (0 : Int32)), .val (.int (0 : Int32)), .val (.ref b5), .val (.int (0 : Int32)), .val (.int (-1 : Int32)), .val (.int (-1 : Int32)), .val (.int v3), .val (.int v4), .val (.int (1 : Int32)), .unset, .unset]) rfl ?_
      refine g_aload X37 hx hby at_195 (pc' := 197) rfl rfl rfl ?_
      refine g_iconst X37 hx hby at_197 (pc' := 198) rfl (z := (0 : Int32)) rfl ?_
      refine Go.callV X37 hx hZ hown (wi hw 89 rfl) (wi hw 90 rfl) (notFace_of_selects (args := #[]) (mvT hZ (wi hw 92 rfl))) (wi hw 92 rfl) (wi hw 91 rfl) (wi hw 3 rfl) (wi hw 93 rfl) (by decide) hh37 (a := b5) (argsL := [(.int (0 : Int32))]) (rest := []) (W := 0) f36 (rm_source l Z a0 hw b5 (0 : Int32) b1_19 (upI (upI (upI (fun _ => (0 : Int32)) 0 v1) 1 v3) 0 (-1 : Int32)) 0 h33 n0 (Nat.le_trans (Nat.le_trans (Nat.le_trans (Nat.le_trans (Nat.le_trans Z0 E5.1) Kq18.1) Kq19.1) Kq27.1) Kq33.1) Fq0_33 Fq2_33 rfl (by decide)) (hb hby at_198) (by rw [hml]; rfl) rfl pd4 rfl rfl (by decide) (by decide) (by decide) (by decide) ?_
      intro v38 T38 L38 X38 hQ38
      obtain ⟨rfl, Nq38, hh38⟩ := hQ38
      have N38 := Fr.app N37 Nq38
      show Go p.tables e below s _ _ _ (T38.setTop (mkF m 201 #[.val (.int p1), .val (.int p2), .val (.int p3), .val (.int p4), .val (.int p5), .val (.int p6), .val (.int (0 : Int32)), .val (.int v1), .val (.int v2), .val (.int v3), .val (.int v4), .val (.int (0 : Int32)), .val (.int (0 : Int32)), .val (.ref b5), .val (.int (0 : Int32)), .val (.int (-1 : Int32)), .val (.int (-1 : Int32)), .val (.int v3), .val (.int v4), .val (.int (1 : Int32)), .unset, .unset] [(.int (-1 : Int32))]))
      refine g_iload X38 hx hby at_201 (pc' := 203) rfl rfl ?_
      have hc203 : (-1 : Int) = (-1 : Int) := by decide
      refine g_icmpNo X38 hx hby at_203 (pc' := 206) (teq (show (-1 : Int32) = (-1 : Int32) from Int32.toInt_inj.mp hc203)).2 rfl ?_
      refine g_aload X38 hx hby at_206 (pc' := 208) rfl rfl rfl ?_
      refine g_iconst X38 hx hby at_208 (pc' := 209) rfl (z := (0 : Int32)) rfl ?_
      refine Go.callV X38 hx hZ hown (wi hw 94 rfl) (wi hw 95 rfl) (notFace_of_selects (args := #[]) (mvT hZ (wi hw 97 rfl))) (wi hw 97 rfl) (wi hw 96 rfl) (wi hw 3 rfl) (wi hw 98 rfl) (by decide) hh38 (a := b5) (argsL := [(.int (0 : Int32))]) (rest := []) (W := 0) f36 (rm_target l Z a0 hw b5 (0 : Int32) b2_19 (upI (upI (upI (fun _ => (0 : Int32)) 0 v2) 1 v4) 0 (-1 : Int32)) 0 h33 n0 (Nat.le_trans (Nat.le_trans (Nat.le_trans (Nat.le_trans (Nat.le_trans Z0 E5.1) Kq18.1) Kq19.1) Kq27.1) Kq33.1) Fq1_33 Fq3_33 rfl (by decide)) (hb hby at_209) (by rw [hml]; rfl) rfl pd4 rfl rfl (by decide) (by decide) (by decide) (by decide) ?_
      intro v39 T39 L39 X39 hQ39
      obtain ⟨rfl, Nq39, hh39⟩ := hQ39
      have N39 := Fr.app N38 Nq39
      show Go p.tables e below s _ _ _ (T39.setTop (mkF m 212 #[.val (.int p1), .val (.int p2), .val (.int p3), .val (.int p4), .val (.int p5), .val (.int p6), .val (.int (0 : Int32)), .val (.int v1), .val (.int v2), .val (.int v3), .val (.int v4), .val (.int (0 : Int32)), .val (.int (0 : Int32)), .val (.ref b5), .val (.int (0 : Int32)), .val (.int (-1 : Int32)), .val (.int (-1 : Int32)), .val (.int v3), .val (.int v4), .val (.int (1 : Int32)), .unset, .unset] [(.int (-1 : Int32))]))
      refine g_iload X39 hx hby at_212 (pc' := 214) rfl rfl ?_
      have hc214 : (-1 : Int) = (-1 : Int) := by decide
      refine g_icmpNo X39 hx hby at_214 (pc' := 217) (teq (show (-1 : Int32) = (-1 : Int32) from Int32.toInt_inj.mp hc214)).2 rfl ?_
      refine g_iconst X39 hx hby at_217 (pc' := 218) rfl (z := (1 : Int32)) rfl ?_
      refine g_goto X39 hx hby at_218 (pc' := 222) (by decide) (by decide) ?_
      refine g_istore X39 hx hby at_222 (pc' := 224) rfl (L' := #[.val (.int p1), .val (.int p2), .val (.int p3), .val (.int p4), .val (.int p5), .val (.int p6), .val (.int (0 : Int32)), .val (.int v1), .val (.int v2), .val (.int v3), .val (.int v4), .val (.int (0 : Int32)), .val (.int (0 : Int32)), .val (.ref b5), .val (.int (0 : Int32)), .val (.int (-1 : Int32)), .val (.int (-1 : Int32)), .val (.int v3), .val (.int v4), .val (.int (1 : Int32)), .val (.int (1 : Int32)), .unset]) rfl ?_
      refine g_aload X39 hx hby at_224 (pc' := 226) rfl rfl rfl ?_
      refine g_iconst X39 hx hby at_226 (pc' := 227) rfl (z := (1 : Int32)) rfl ?_
      refine Go.callV X39 hx hZ hown (wi hw 89 rfl) (wi hw 90 rfl) (notFace_of_selects (args := #[]) (mvT hZ (wi hw 92 rfl))) (wi hw 92 rfl) (wi hw 91 rfl) (wi hw 3 rfl) (wi hw 93 rfl) (by decide) hh39 (a := b5) (argsL := [(.int (1 : Int32))]) (rest := []) (W := 0) f36 (rm_source l Z a0 hw b5 (1 : Int32) b1_19 (upI (upI (upI (fun _ => (0 : Int32)) 0 v1) 1 v3) 0 (-1 : Int32)) 1 h33 n0 (Nat.le_trans (Nat.le_trans (Nat.le_trans (Nat.le_trans (Nat.le_trans Z0 E5.1) Kq18.1) Kq19.1) Kq27.1) Kq33.1) Fq0_33 Fq2_33 rfl (by decide)) (hb hby at_227) (by rw [hml]; rfl) rfl pd4 rfl rfl (by decide) (by decide) (by decide) (by decide) ?_
      intro v40 T40 L40 X40 hQ40
      obtain ⟨rfl, Nq40, hh40⟩ := hQ40
      have N40 := Fr.app N39 Nq40
      show Go p.tables e below s _ _ _ (T40.setTop (mkF m 230 #[.val (.int p1), .val (.int p2), .val (.int p3), .val (.int p4), .val (.int p5), .val (.int p6), .val (.int (0 : Int32)), .val (.int v1), .val (.int v2), .val (.int v3), .val (.int v4), .val (.int (0 : Int32)), .val (.int (0 : Int32)), .val (.ref b5), .val (.int (0 : Int32)), .val (.int (-1 : Int32)), .val (.int (-1 : Int32)), .val (.int v3), .val (.int v4), .val (.int (1 : Int32)), .val (.int (1 : Int32)), .unset] [(.int v3)]))
      refine g_iload X40 hx hby at_230 (pc' := 232) rfl rfl ?_
      have hc232 : v3.toInt = v3.toInt := rfl
      refine g_icmpNo X40 hx hby at_232 (pc' := 235) (teq (show v3 = v3 from Int32.toInt_inj.mp hc232)).2 rfl ?_
      refine g_aload X40 hx hby at_235 (pc' := 237) rfl rfl rfl ?_
      refine g_iconst X40 hx hby at_237 (pc' := 238) rfl (z := (1 : Int32)) rfl ?_
      refine Go.callV X40 hx hZ hown (wi hw 94 rfl) (wi hw 95 rfl) (notFace_of_selects (args := #[]) (mvT hZ (wi hw 97 rfl))) (wi hw 97 rfl) (wi hw 96 rfl) (wi hw 3 rfl) (wi hw 98 rfl) (by decide) hh40 (a := b5) (argsL := [(.int (1 : Int32))]) (rest := []) (W := 0) f36 (rm_target l Z a0 hw b5 (1 : Int32) b2_19 (upI (upI (upI (fun _ => (0 : Int32)) 0 v2) 1 v4) 0 (-1 : Int32)) 1 h33 n0 (Nat.le_trans (Nat.le_trans (Nat.le_trans (Nat.le_trans (Nat.le_trans Z0 E5.1) Kq18.1) Kq19.1) Kq27.1) Kq33.1) Fq1_33 Fq3_33 rfl (by decide)) (hb hby at_238) (by rw [hml]; rfl) rfl pd4 rfl rfl (by decide) (by decide) (by decide) (by decide) ?_
      intro v41 T41 L41 X41 hQ41
      obtain ⟨rfl, Nq41, hh41⟩ := hQ41
      have N41 := Fr.app N40 Nq41
      show Go p.tables e below s _ _ _ (T41.setTop (mkF m 241 #[.val (.int p1), .val (.int p2), .val (.int p3), .val (.int p4), .val (.int p5), .val (.int p6), .val (.int (0 : Int32)), .val (.int v1), .val (.int v2), .val (.int v3), .val (.int v4), .val (.int (0 : Int32)), .val (.int (0 : Int32)), .val (.ref b5), .val (.int (0 : Int32)), .val (.int (-1 : Int32)), .val (.int (-1 : Int32)), .val (.int v3), .val (.int v4), .val (.int (1 : Int32)), .val (.int (1 : Int32)), .unset] [(.int v4)]))
      refine g_iload X41 hx hby at_241 (pc' := 243) rfl rfl ?_
      have hc243 : v4.toInt = v4.toInt := rfl
      refine g_icmpNo X41 hx hby at_243 (pc' := 246) (teq (show v4 = v4 from Int32.toInt_inj.mp hc243)).2 rfl ?_
      refine g_iconst X41 hx hby at_246 (pc' := 247) rfl (z := (1 : Int32)) rfl ?_
      refine g_goto X41 hx hby at_247 (pc' := 251) (by decide) (by decide) ?_
      refine g_istore X41 hx hby at_251 (pc' := 253) rfl (L' := #[.val (.int p1), .val (.int p2), .val (.int p3), .val (.int p4), .val (.int p5), .val (.int p6), .val (.int (0 : Int32)), .val (.int v1), .val (.int v2), .val (.int v3), .val (.int v4), .val (.int (0 : Int32)), .val (.int (0 : Int32)), .val (.ref b5), .val (.int (0 : Int32)), .val (.int (-1 : Int32)), .val (.int (-1 : Int32)), .val (.int v3), .val (.int v4), .val (.int (1 : Int32)), .val (.int (1 : Int32)), .val (.int (1 : Int32))]) rfl ?_
      refine g_iload X41 hx hby at_253 (pc' := 255) rfl rfl ?_
      have hc255 : ¬ ((1 : Int) = (0 : Int)) := by decide
      refine g_ifNo X41 hx hby at_255 (pc' := 258) (feq (show ¬ ((1 : Int32) = (0 : Int32)) from fun q => hc255 (congrArg Int32.toInt q))).1 rfl ?_
      refine g_iload X41 hx hby at_258 (pc' := 260) rfl rfl ?_
      have hc260 : ¬ ((1 : Int) = (0 : Int)) := by decide
      refine g_ifNo X41 hx hby at_260 (pc' := 263) (feq (show ¬ ((1 : Int32) = (0 : Int32)) from fun q => hc260 (congrArg Int32.toInt q))).1 rfl ?_
      refine g_iload X41 hx hby at_263 (pc' := 265) rfl rfl ?_
      have hc265 : ¬ ((1 : Int) = (0 : Int)) := by decide
      refine g_ifNo X41 hx hby at_265 (pc' := 268) (feq (show ¬ ((1 : Int32) = (0 : Int32)) from fun q => hc265 (congrArg Int32.toInt q))).1 rfl ?_
      refine g_iconst X41 hx hby at_268 (pc' := 269) rfl (z := (1 : Int32)) rfl ?_
      refine g_goto X41 hx hby at_269 (pc' := 273) (by decide) (by decide) ?_
      refine Go.retZ X41 hx hlk hret (by simp) (hb hby at_273) (by decide) (by decide) ?_
      exact ⟨rfl, N41⟩
    · show Go p.tables e below s _ _ _ (T27.setTop (mkF m 109 #[.val (.int p1), .val (.int p2), .val (.int p3), .val (.int p4), .val (.int p5), .val (.int p6), .val (.int (0 : Int32)), .val (.int v1), .val (.int v2), .val (.int v3), .val (.int v4), .val (.int (0 : Int32)), .val (.int (0 : Int32)), .val (.ref b5), .val (.int (1 : Int32)), .unset, .unset, .unset, .unset, .unset, .unset, .unset] []))
      refine g_aload X27 hx hby at_109 (pc' := 111) rfl rfl rfl ?_
      refine g_iload X27 hx hby at_111 (pc' := 113) rfl rfl ?_
      have f43 := f28.keep Kq27
      refine Go.callV X27 hx hZ hown (wi hw 74 rfl) (wi hw 75 rfl) (notFace_of_selects (args := #[]) (mvT hZ (wi hw 77 rfl))) (wi hw 77 rfl) (wi hw 76 rfl) (wi hw 3 rfl) (wi hw 78 rfl) (by decide) e27 (a := b5) (argsL := [(.int (1 : Int32))]) (rest := []) (W := 0) f43 (rm_remove4 l Z a0 hw b5 (1 : Int32) b1_19 b2_19 (upI (upI (fun _ => (0 : Int32)) 0 v1) 1 v3) (upI (upI (fun _ => (0 : Int32)) 0 v2) 1 v4) (2 : Int32) (2 : Int32) 1 h27 n0 (Nat.le_trans (Nat.le_trans (Nat.le_trans (Nat.le_trans Z0 E5.1) Kq18.1) Kq19.1) Kq27.1) f43 Fq2_27 Fq3_27 Fq11_27 Fq12_27 Fq8_27 Fq9_27 (Ne.symm ne29) (Ne.symm ne30) nqb1_b2_19 g6 gqb1_19 gqb2_19 rfl (by decide)) (hb hby at_113) (by rw [hml]; rfl) rfl pd5 rfl rfl (by decide) (by decide) (by decide) (by decide) ?_
      intro v42 T42 L42 X42 hQ42
      obtain ⟨h42, e42⟩ : ∃ z, T42.heap = z := ⟨_, rfl⟩
      rw [e42] at hQ42
      obtain ⟨rfl, Nq42, Kq42, Fq0_42, Fq1_42, Fq2_42, Fq3_42, Fq4_42, Fq5_42⟩ := hQ42
      have N42 := Fr.app N27 Nq42
      have Fq5_42 : Fld Z h42 b5 "com/example/edgewise/edgewise/EdgeSlots" "count" "I" (.int (1 : Int32)) := Fq5_42
      refine Go.void (pc' := 116) rfl ?_
      refine g_iload X42 hx hby at_116 (pc' := 118) rfl rfl ?_
      have hc118 : ¬ ((1 : Int) = (0 : Int)) := by decide
      refine g_ifYes X42 hx hby at_118 (pc' := 125) (feq (show ¬ ((1 : Int32) = (0 : Int32)) from fun q => hc118 (congrArg Int32.toInt q))).2 (by decide) (by decide) ?_
      refine g_iload X42 hx hby at_125 (pc' := 127) rfl rfl ?_
      refine g_istore X42 hx hby at_127 (pc' := 129) rfl (L' := #[.val (.int p1), .val (.int p2), .val (.int p3), .val (.int p4), .val (.int p5), .val (.int p6), .val (.int (0 : Int32)), .val (.int v1), .val (.int v2), .val (.int v3), .val (.int v4), .val (.int (0 : Int32)), .val (.int (0 : Int32)), .val (.ref b5), .val (.int (1 : Int32)), .val (.int v1), .unset, .unset, .unset, .unset, .unset, .unset]) rfl ?_
      refine g_iload X42 hx hby at_129 (pc' := 131) rfl rfl ?_
      have hc131 : ¬ ((1 : Int) = (0 : Int)) := by decide
      refine g_ifYes X42 hx hby at_131 (pc' := 138) (feq (show ¬ ((1 : Int32) = (0 : Int32)) from fun q => hc131 (congrArg Int32.toInt q))).2 (by decide) (by decide) ?_
      refine g_iload X42 hx hby at_138 (pc' := 140) rfl rfl ?_
      refine g_istore X42 hx hby at_140 (pc' := 142) rfl (L' := #[.val (.int p1), .val (.int p2), .val (.int p3), .val (.int p4), .val (.int p5), .val (.int p6), .val (.int (0 : Int32)), .val (.int v1), .val (.int v2), .val (.int v3), .val (.int v4), .val (.int (0 : Int32)), .val (.int (0 : Int32)), .val (.ref b5), .val (.int (1 : Int32)), .val (.int v1), .val (.int v2), .unset, .unset, .unset, .unset, .unset]) rfl ?_
      refine g_iload X42 hx hby at_142 (pc' := 144) rfl rfl ?_
      refine g_iconst X42 hx hby at_144 (pc' := 145) rfl (z := (1 : Int32)) rfl ?_
      have hc145 : (1 : Int) = (1 : Int) := by decide
      refine g_icmpNo X42 hx hby at_145 (pc' := 148) (teq (show (1 : Int32) = (1 : Int32) from Int32.toInt_inj.mp hc145)).2 rfl ?_
      refine g_iconst X42 hx hby at_148 (pc' := 149) rfl (z := (-1 : Int32)) rfl ?_
      refine g_goto X42 hx hby at_149 (pc' := 154) (by decide) (by decide) ?_
      refine g_istore X42 hx hby at_154 (pc' := 156) rfl (L' := #[.val (.int p1), .val (.int p2), .val (.int p3), .val (.int p4), .val (.int p5), .val (.int p6), .val (.int (0 : Int32)), .val (.int v1), .val (.int v2), .val (.int v3), .val (.int v4), .val (.int (0 : Int32)), .val (.int (0 : Int32)), .val (.ref b5), .val (.int (1 : Int32)), .val (.int v1), .val (.int v2), .val (.int (-1 : Int32)), .unset, .unset, .unset, .unset]) rfl ?_
      refine g_iload X42 hx hby at_156 (pc' := 158) rfl rfl ?_
      refine g_iconst X42 hx hby at_158 (pc' := 159) rfl (z := (1 : Int32)) rfl ?_
      have hc159 : (1 : Int) = (1 : Int) := by decide
      refine g_icmpNo X42 hx hby at_159 (pc' := 162) (teq (show (1 : Int32) = (1 : Int32) from Int32.toInt_inj.mp hc159)).2 rfl ?_
      refine g_iconst X42 hx hby at_162 (pc' := 163) rfl (z := (-1 : Int32)) rfl ?_
      refine g_goto X42 hx hby at_163 (pc' := 168) (by decide) (by decide) ?_
      refine g_istore X42 hx hby at_168 (pc' := 170) rfl (L' := #[.val (.int p1), .val (.int p2), .val (.int p3), .val (.int p4), .val (.int p5), .val (.int p6), .val (.int (0 : Int32)), .val (.int v1), .val (.int v2), .val (.int v3), .val (.int v4), .val (.int (0 : Int32)), .val (.int (0 : Int32)), .val (.ref b5), .val (.int (1 : Int32)), .val (.int v1), .val (.int v2), .val (.int (-1 : Int32)), .val (.int (-1 : Int32)), .unset, .unset, .unset]) rfl ?_
      refine g_aload X42 hx hby at_170 (pc' := 172) rfl rfl rfl ?_
      have f45 := f43.keep Kq42
      refine Go.callV X42 hx hZ hown (wi hw 79 rfl) (wi hw 80 rfl) (notFace_of_selects (args := #[]) (mvT hZ (wi hw 82 rfl))) (wi hw 82 rfl) (wi hw 81 rfl) (wi hw 3 rfl) (wi hw 83 rfl) (by decide) e42 (a := b5) (argsL := []) (rest := []) (W := 0) f45 (rm_count l Z a0 hw b5 (1 : Int32) h42 n0 (Nat.le_trans (Nat.le_trans (Nat.le_trans (Nat.le_trans (Nat.le_trans Z0 E5.1) Kq18.1) Kq19.1) Kq27.1) Kq42.1) Fq5_42) (hb hby at_172) (by rw [hml]; rfl) rfl pd8 rfl rfl (by decide) (by decide) (by decide) (by decide) ?_
      intro v44 T44 L44 X44 hQ44
      obtain ⟨rfl, Nq44, hh44⟩ := hQ44
      have N44 := Fr.app N42 Nq44
      refine Go.push (pc' := 175) rfl ?_
      refine g_iconst X44 hx hby at_175 (pc' := 176) rfl (z := (1 : Int32)) rfl ?_
      have hc176 : (1 : Int) = (1 : Int) := by decide
      refine g_icmpNo X44 hx hby at_176 (pc' := 179) (teq (show (1 : Int32) = (1 : Int32) from Int32.toInt_inj.mp hc176)).2 rfl ?_
      refine g_aload X44 hx hby at_179 (pc' := 181) rfl rfl rfl ?_
      refine Go.callV X44 hx hZ hown (wi hw 84 rfl) (wi hw 85 rfl) (notFace_of_selects (args := #[]) (mvT hZ (wi hw 87 rfl))) (wi hw 87 rfl) (wi hw 86 rfl) (wi hw 3 rfl) (wi hw 88 rfl) (by decide) hh44 (a := b5) (argsL := []) (rest := []) (W := 0) f45 (rm_bound l Z a0 hw b5 (2 : Int32) h42 n0 (Nat.le_trans (Nat.le_trans (Nat.le_trans (Nat.le_trans (Nat.le_trans Z0 E5.1) Kq18.1) Kq19.1) Kq27.1) Kq42.1) Fq4_42) (hb hby at_181) (by rw [hml]; rfl) rfl pd8 rfl rfl (by decide) (by decide) (by decide) (by decide) ?_
      intro v46 T46 L46 X46 hQ46
      obtain ⟨rfl, Nq46, hh46⟩ := hQ46
      have N46 := Fr.app N44 Nq46
      refine Go.push (pc' := 184) rfl ?_
      refine g_iconst X46 hx hby at_184 (pc' := 185) rfl (z := (2 : Int32)) rfl ?_
      have hc185 : (2 : Int) = (2 : Int) := by decide
      refine g_icmpNo X46 hx hby at_185 (pc' := 188) (teq (show (2 : Int32) = (2 : Int32) from Int32.toInt_inj.mp hc185)).2 rfl ?_
      refine g_iconst X46 hx hby at_188 (pc' := 189) rfl (z := (1 : Int32)) rfl ?_
      refine g_goto X46 hx hby at_189 (pc' := 193) (by decide) (by decide) ?_
      refine g_istore X46 hx hby at_193 (pc' := 195) rfl (L' := #[.val (.int p1), .val (.int p2), .val (.int p3), .val (.int p4), .val (.int p5), .val (.int p6), .val (.int (0 : Int32)), .val (.int v1), .val (.int v2), .val (.int v3), .val (.int v4), .val (.int (0 : Int32)), .val (.int (0 : Int32)), .val (.ref b5), .val (.int (1 : Int32)), .val (.int v1), .val (.int v2), .val (.int (-1 : Int32)), .val (.int (-1 : Int32)), .val (.int (1 : Int32)), .unset, .unset]) rfl ?_
      refine g_aload X46 hx hby at_195 (pc' := 197) rfl rfl rfl ?_
      refine g_iconst X46 hx hby at_197 (pc' := 198) rfl (z := (0 : Int32)) rfl ?_
      refine Go.callV X46 hx hZ hown (wi hw 89 rfl) (wi hw 90 rfl) (notFace_of_selects (args := #[]) (mvT hZ (wi hw 92 rfl))) (wi hw 92 rfl) (wi hw 91 rfl) (wi hw 3 rfl) (wi hw 93 rfl) (by decide) hh46 (a := b5) (argsL := [(.int (0 : Int32))]) (rest := []) (W := 0) f45 (rm_source l Z a0 hw b5 (0 : Int32) b1_19 (upI (upI (upI (fun _ => (0 : Int32)) 0 v1) 1 v3) 1 (-1 : Int32)) 0 h42 n0 (Nat.le_trans (Nat.le_trans (Nat.le_trans (Nat.le_trans (Nat.le_trans Z0 E5.1) Kq18.1) Kq19.1) Kq27.1) Kq42.1) Fq0_42 Fq2_42 rfl (by decide)) (hb hby at_198) (by rw [hml]; rfl) rfl pd4 rfl rfl (by decide) (by decide) (by decide) (by decide) ?_
      intro v47 T47 L47 X47 hQ47
      obtain ⟨rfl, Nq47, hh47⟩ := hQ47
      have N47 := Fr.app N46 Nq47
      show Go p.tables e below s _ _ _ (T47.setTop (mkF m 201 #[.val (.int p1), .val (.int p2), .val (.int p3), .val (.int p4), .val (.int p5), .val (.int p6), .val (.int (0 : Int32)), .val (.int v1), .val (.int v2), .val (.int v3), .val (.int v4), .val (.int (0 : Int32)), .val (.int (0 : Int32)), .val (.ref b5), .val (.int (1 : Int32)), .val (.int v1), .val (.int v2), .val (.int (-1 : Int32)), .val (.int (-1 : Int32)), .val (.int (1 : Int32)), .unset, .unset] [(.int v1)]))
      refine g_iload X47 hx hby at_201 (pc' := 203) rfl rfl ?_
      have hc203 : v1.toInt = v1.toInt := rfl
      refine g_icmpNo X47 hx hby at_203 (pc' := 206) (teq (show v1 = v1 from Int32.toInt_inj.mp hc203)).2 rfl ?_
      refine g_aload X47 hx hby at_206 (pc' := 208) rfl rfl rfl ?_
      refine g_iconst X47 hx hby at_208 (pc' := 209) rfl (z := (0 : Int32)) rfl ?_
      refine Go.callV X47 hx hZ hown (wi hw 94 rfl) (wi hw 95 rfl) (notFace_of_selects (args := #[]) (mvT hZ (wi hw 97 rfl))) (wi hw 97 rfl) (wi hw 96 rfl) (wi hw 3 rfl) (wi hw 98 rfl) (by decide) hh47 (a := b5) (argsL := [(.int (0 : Int32))]) (rest := []) (W := 0) f45 (rm_target l Z a0 hw b5 (0 : Int32) b2_19 (upI (upI (upI (fun _ => (0 : Int32)) 0 v2) 1 v4) 1 (-1 : Int32)) 0 h42 n0 (Nat.le_trans (Nat.le_trans (Nat.le_trans (Nat.le_trans (Nat.le_trans Z0 E5.1) Kq18.1) Kq19.1) Kq27.1) Kq42.1) Fq1_42 Fq3_42 rfl (by decide)) (hb hby at_209) (by rw [hml]; rfl) rfl pd4 rfl rfl (by decide) (by decide) (by decide) (by decide) ?_
      intro v48 T48 L48 X48 hQ48
      obtain ⟨rfl, Nq48, hh48⟩ := hQ48
      have N48 := Fr.app N47 Nq48
      show Go p.tables e below s _ _ _ (T48.setTop (mkF m 212 #[.val (.int p1), .val (.int p2), .val (.int p3), .val (.int p4), .val (.int p5), .val (.int p6), .val (.int (0 : Int32)), .val (.int v1), .val (.int v2), .val (.int v3), .val (.int v4), .val (.int (0 : Int32)), .val (.int (0 : Int32)), .val (.ref b5), .val (.int (1 : Int32)), .val (.int v1), .val (.int v2), .val (.int (-1 : Int32)), .val (.int (-1 : Int32)), .val (.int (1 : Int32)), .unset, .unset] [(.int v2)]))
      refine g_iload X48 hx hby at_212 (pc' := 214) rfl rfl ?_
      have hc214 : v2.toInt = v2.toInt := rfl
      refine g_icmpNo X48 hx hby at_214 (pc' := 217) (teq (show v2 = v2 from Int32.toInt_inj.mp hc214)).2 rfl ?_
      refine g_iconst X48 hx hby at_217 (pc' := 218) rfl (z := (1 : Int32)) rfl ?_
      refine g_goto X48 hx hby at_218 (pc' := 222) (by decide) (by decide) ?_
      refine g_istore X48 hx hby at_222 (pc' := 224) rfl (L' := #[.val (.int p1), .val (.int p2), .val (.int p3), .val (.int p4), .val (.int p5), .val (.int p6), .val (.int (0 : Int32)), .val (.int v1), .val (.int v2), .val (.int v3), .val (.int v4), .val (.int (0 : Int32)), .val (.int (0 : Int32)), .val (.ref b5), .val (.int (1 : Int32)), .val (.int v1), .val (.int v2), .val (.int (-1 : Int32)), .val (.int (-1 : Int32)), .val (.int (1 : Int32)), .val (.int (1 : Int32)), .unset]) rfl ?_
      refine g_aload X48 hx hby at_224 (pc' := 226) rfl rfl rfl ?_
      refine g_iconst X48 hx hby at_226 (pc' := 227) rfl (z := (1 : Int32)) rfl ?_
      refine Go.callV X48 hx hZ hown (wi hw 89 rfl) (wi hw 90 rfl) (notFace_of_selects (args := #[]) (mvT hZ (wi hw 92 rfl))) (wi hw 92 rfl) (wi hw 91 rfl) (wi hw 3 rfl) (wi hw 93 rfl) (by decide) hh48 (a := b5) (argsL := [(.int (1 : Int32))]) (rest := []) (W := 0) f45 (rm_source l Z a0 hw b5 (1 : Int32) b1_19 (upI (upI (upI (fun _ => (0 : Int32)) 0 v1) 1 v3) 1 (-1 : Int32)) 1 h42 n0 (Nat.le_trans (Nat.le_trans (Nat.le_trans (Nat.le_trans (Nat.le_trans Z0 E5.1) Kq18.1) Kq19.1) Kq27.1) Kq42.1) Fq0_42 Fq2_42 rfl (by decide)) (hb hby at_227) (by rw [hml]; rfl) rfl pd4 rfl rfl (by decide) (by decide) (by decide) (by decide) ?_
      intro v49 T49 L49 X49 hQ49
      obtain ⟨rfl, Nq49, hh49⟩ := hQ49
      have N49 := Fr.app N48 Nq49
      show Go p.tables e below s _ _ _ (T49.setTop (mkF m 230 #[.val (.int p1), .val (.int p2), .val (.int p3), .val (.int p4), .val (.int p5), .val (.int p6), .val (.int (0 : Int32)), .val (.int v1), .val (.int v2), .val (.int v3), .val (.int v4), .val (.int (0 : Int32)), .val (.int (0 : Int32)), .val (.ref b5), .val (.int (1 : Int32)), .val (.int v1), .val (.int v2), .val (.int (-1 : Int32)), .val (.int (-1 : Int32)), .val (.int (1 : Int32)), .val (.int (1 : Int32)), .unset] [(.int (-1 : Int32))]))
      refine g_iload X49 hx hby at_230 (pc' := 232) rfl rfl ?_
      have hc232 : (-1 : Int) = (-1 : Int) := by decide
      refine g_icmpNo X49 hx hby at_232 (pc' := 235) (teq (show (-1 : Int32) = (-1 : Int32) from Int32.toInt_inj.mp hc232)).2 rfl ?_
      refine g_aload X49 hx hby at_235 (pc' := 237) rfl rfl rfl ?_
      refine g_iconst X49 hx hby at_237 (pc' := 238) rfl (z := (1 : Int32)) rfl ?_
      refine Go.callV X49 hx hZ hown (wi hw 94 rfl) (wi hw 95 rfl) (notFace_of_selects (args := #[]) (mvT hZ (wi hw 97 rfl))) (wi hw 97 rfl) (wi hw 96 rfl) (wi hw 3 rfl) (wi hw 98 rfl) (by decide) hh49 (a := b5) (argsL := [(.int (1 : Int32))]) (rest := []) (W := 0) f45 (rm_target l Z a0 hw b5 (1 : Int32) b2_19 (upI (upI (upI (fun _ => (0 : Int32)) 0 v2) 1 v4) 1 (-1 : Int32)) 1 h42 n0 (Nat.le_trans (Nat.le_trans (Nat.le_trans (Nat.le_trans (Nat.le_trans Z0 E5.1) Kq18.1) Kq19.1) Kq27.1) Kq42.1) Fq1_42 Fq3_42 rfl (by decide)) (hb hby at_238) (by rw [hml]; rfl) rfl pd4 rfl rfl (by decide) (by decide) (by decide) (by decide) ?_
      intro v50 T50 L50 X50 hQ50
      obtain ⟨rfl, Nq50, hh50⟩ := hQ50
      have N50 := Fr.app N49 Nq50
      show Go p.tables e below s _ _ _ (T50.setTop (mkF m 241 #[.val (.int p1), .val (.int p2), .val (.int p3), .val (.int p4), .val (.int p5), .val (.int p6), .val (.int (0 : Int32)), .val (.int v1), .val (.int v2), .val (.int v3), .val (.int v4), .val (.int (0 : Int32)), .val (.int (0 : Int32)), .val (.ref b5), .val (.int (1 : Int32)), .val (.int v1), .val (.int v2), .val (.int (-1 : Int32)), .val (.int (-1 : Int32)), .val (.int (1 : Int32)), .val (.int (1 : Int32)), .unset] [(.int (-1 : Int32))]))
      refine g_iload X50 hx hby at_241 (pc' := 243) rfl rfl ?_
      have hc243 : (-1 : Int) = (-1 : Int) := by decide
      refine g_icmpNo X50 hx hby at_243 (pc' := 246) (teq (show (-1 : Int32) = (-1 : Int32) from Int32.toInt_inj.mp hc243)).2 rfl ?_
      refine g_iconst X50 hx hby at_246 (pc' := 247) rfl (z := (1 : Int32)) rfl ?_
      refine g_goto X50 hx hby at_247 (pc' := 251) (by decide) (by decide) ?_
      refine g_istore X50 hx hby at_251 (pc' := 253) rfl (L' := #[.val (.int p1), .val (.int p2), .val (.int p3), .val (.int p4), .val (.int p5), .val (.int p6), .val (.int (0 : Int32)), .val (.int v1), .val (.int v2), .val (.int v3), .val (.int v4), .val (.int (0 : Int32)), .val (.int (0 : Int32)), .val (.ref b5), .val (.int (1 : Int32)), .val (.int v1), .val (.int v2), .val (.int (-1 : Int32)), .val (.int (-1 : Int32)), .val (.int (1 : Int32)), .val (.int (1 : Int32)), .val (.int (1 : Int32))]) rfl ?_
      refine g_iload X50 hx hby at_253 (pc' := 255) rfl rfl ?_
      have hc255 : ¬ ((1 : Int) = (0 : Int)) := by decide
      refine g_ifNo X50 hx hby at_255 (pc' := 258) (feq (show ¬ ((1 : Int32) = (0 : Int32)) from fun q => hc255 (congrArg Int32.toInt q))).1 rfl ?_
      refine g_iload X50 hx hby at_258 (pc' := 260) rfl rfl ?_
      have hc260 : ¬ ((1 : Int) = (0 : Int)) := by decide
      refine g_ifNo X50 hx hby at_260 (pc' := 263) (feq (show ¬ ((1 : Int32) = (0 : Int32)) from fun q => hc260 (congrArg Int32.toInt q))).1 rfl ?_
      refine g_iload X50 hx hby at_263 (pc' := 265) rfl rfl ?_
      have hc265 : ¬ ((1 : Int) = (0 : Int)) := by decide
      refine g_ifNo X50 hx hby at_265 (pc' := 268) (feq (show ¬ ((1 : Int32) = (0 : Int32)) from fun q => hc265 (congrArg Int32.toInt q))).1 rfl ?_
      refine g_iconst X50 hx hby at_268 (pc' := 269) rfl (z := (1 : Int32)) rfl ?_
      refine g_goto X50 hx hby at_269 (pc' := 273) (by decide) (by decide) ?_
      refine Go.retZ X50 hx hlk hret (by simp) (hb hby at_273) (by decide) (by decide) ?_
      exact ⟨rfl, N50⟩
  · refine g_ifNo X0 hx hby at_4 (pc' := 7) (feq (show ¬ ((p6 &&& (1 : Int32)) = (0 : Int32)) from fun q => hc4 (congrArg Int32.toInt q))).1 rfl ?_
    refine g_iconst X0 hx hby at_7 (pc' := 8) rfl (z := (1 : Int32)) rfl ?_
    refine g_goto X0 hx hby at_8 (pc' := 12) (by decide) (by decide) ?_
    refine g_istore X0 hx hby at_12 (pc' := 14) rfl (L' := #[.val (.int p1), .val (.int p2), .val (.int p3), .val (.int p4), .val (.int p5), .val (.int p6), .val (.int (1 : Int32)), .unset, .unset, .unset, .unset, .unset, .unset, .unset, .unset, .unset, .unset, .unset, .unset, .unset, .unset, .unset]) rfl ?_
    refine g_iloadN X0 hx hby at_14 (pc' := 15) rfl rfl ?_
    refine g_ldcI X0 hx hby hZ hown (wi hw 0 rfl) at_15 (pc' := 17) rfl ?_
    refine g_iand X0 hx hby at_17 (pc' := 18) rfl rfl ?_
    generalize hv51 : (p1 &&& (2147483647 : Int32)) = v51
    refine g_istore X0 hx hby at_18 (pc' := 20) rfl (L' := #[.val (.int p1), .val (.int p2), .val (.int p3), .val (.int p4), .val (.int p5), .val (.int p6), .val (.int (1 : Int32)), .val (.int v51), .unset, .unset, .unset, .unset, .unset, .unset, .unset, .unset, .unset, .unset, .unset, .unset, .unset, .unset]) rfl ?_
    refine g_iloadN X0 hx hby at_20 (pc' := 21) rfl rfl ?_
    refine g_ldcI X0 hx hby hZ hown (wi hw 0 rfl) at_21 (pc' := 23) rfl ?_
    refine g_iand X0 hx hby at_23 (pc' := 24) rfl rfl ?_
    generalize hv52 : (p2 &&& (2147483647 : Int32)) = v52
    refine g_istore X0 hx hby at_24 (pc' := 26) rfl (L' := #[.val (.int p1), .val (.int p2), .val (.int p3), .val (.int p4), .val (.int p5), .val (.int p6), .val (.int (1 : Int32)), .val (.int v51), .val (.int v52), .unset, .unset, .unset, .unset, .unset, .unset, .unset, .unset, .unset, .unset, .unset, .unset, .unset]) rfl ?_
    refine g_iloadN X0 hx hby at_26 (pc' := 27) rfl rfl ?_
    refine g_ldcI X0 hx hby hZ hown (wi hw 0 rfl) at_27 (pc' := 29) rfl ?_
    refine g_iand X0 hx hby at_29 (pc' := 30) rfl rfl ?_
    generalize hv53 : (p3 &&& (2147483647 : Int32)) = v53
    refine g_istore X0 hx hby at_30 (pc' := 32) rfl (L' := #[.val (.int p1), .val (.int p2), .val (.int p3), .val (.int p4), .val (.int p5), .val (.int p6), .val (.int (1 : Int32)), .val (.int v51), .val (.int v52), .val (.int v53), .unset, .unset, .unset, .unset, .unset, .unset, .unset, .unset, .unset, .unset, .unset, .unset]) rfl ?_
    refine g_iloadN X0 hx hby at_32 (pc' := 33) rfl rfl ?_
    refine g_ldcI X0 hx hby hZ hown (wi hw 0 rfl) at_33 (pc' := 35) rfl ?_
    refine g_iand X0 hx hby at_35 (pc' := 36) rfl rfl ?_
    generalize hv54 : (p4 &&& (2147483647 : Int32)) = v54
    refine g_istore X0 hx hby at_36 (pc' := 38) rfl (L' := #[.val (.int p1), .val (.int p2), .val (.int p3), .val (.int p4), .val (.int p5), .val (.int p6), .val (.int (1 : Int32)), .val (.int v51), .val (.int v52), .val (.int v53), .val (.int v54), .unset, .unset, .unset, .unset, .unset, .unset, .unset, .unset, .unset, .unset, .unset]) rfl ?_
    refine g_iload X0 hx hby at_38 (pc' := 40) rfl rfl ?_
    have hc40 : ¬ ((1 : Int) = (0 : Int)) := by decide
    refine g_ifNo X0 hx hby at_40 (pc' := 43) (feq (show ¬ ((1 : Int32) = (0 : Int32)) from fun q => hc40 (congrArg Int32.toInt q))).1 rfl ?_
    refine g_iload X0 hx hby at_43 (pc' := 45) rfl rfl ?_
    refine g_goto X0 hx hby at_45 (pc' := 49) (by decide) (by decide) ?_
    refine g_istore X0 hx hby at_49 (pc' := 51) rfl (L' := #[.val (.int p1), .val (.int p2), .val (.int p3), .val (.int p4), .val (.int p5), .val (.int p6), .val (.int (1 : Int32)), .val (.int v51), .val (.int v52), .val (.int v53), .val (.int v54), .val (.int p6), .unset, .unset, .unset, .unset, .unset, .unset, .unset, .unset, .unset, .unset]) rfl ?_
    refine g_iload X0 hx hby at_51 (pc' := 53) rfl rfl ?_
    have hc53 : ¬ ((1 : Int) = (0 : Int)) := by decide
    refine g_ifNo X0 hx hby at_53 (pc' := 56) (feq (show ¬ ((1 : Int32) = (0 : Int32)) from fun q => hc53 (congrArg Int32.toInt q))).1 rfl ?_
    refine g_iload X0 hx hby at_56 (pc' := 58) rfl rfl ?_
    refine g_goto X0 hx hby at_58 (pc' := 62) (by decide) (by decide) ?_
    refine g_istore X0 hx hby at_62 (pc' := 64) rfl (L' := #[.val (.int p1), .val (.int p2), .val (.int p3), .val (.int p4), .val (.int p5), .val (.int p6), .val (.int (1 : Int32)), .val (.int v51), .val (.int v52), .val (.int v53), .val (.int v54), .val (.int p6), .val (.int p5), .unset, .unset, .unset, .unset, .unset, .unset, .unset, .unset, .unset]) rfl ?_
    have hk0 : True := trivial
    refine g_new X0 hx hby hZ hown (wi hw 1 rfl) (wi hw 2 rfl) (wi hw 3 rfl) e0 at_64 (pc' := 67) rfl (by decide) (by decide) ?_
    intro T55 h55 b55 X55 e55 E55 hb55 A55 D55
    have g56 : n0 ≤ b55 := by rw [hb55]; exact Z0
    have F57 : Fld Z h55 b55 "com/example/edgewise/edgewise/EdgeSlots" "sources" "[I" .null := D55 (Or.inl (wi hw 12 rfl)) (ty := (.array .int)) (by decide)
    have F58 : Fld Z h55 b55 "com/example/edgewise/edgewise/EdgeSlots" "targets" "[I" .null := D55 (Or.inl (wi hw 14 rfl)) (ty := (.array .int)) (by decide)
    have F59 : Fld Z h55 b55 "com/example/edgewise/edgewise/EdgeSlots" "sourcePositions" "[I" .null := D55 (Or.inl (wi hw 16 rfl)) (ty := (.array .int)) (by decide)
    have F60 : Fld Z h55 b55 "com/example/edgewise/edgewise/EdgeSlots" "targetPositions" "[I" .null := D55 (Or.inl (wi hw 18 rfl)) (ty := (.array .int)) (by decide)
    have F61 : Fld Z h55 b55 "com/example/edgewise/edgewise/EdgeSlots" "weights" "[D" .null := D55 (Or.inl (wi hw 21 rfl)) (ty := (.array .double)) (by decide)
    have F62 : Fld Z h55 b55 "com/example/edgewise/edgewise/EdgeSlots" "keys" "[I" .null := D55 (Or.inl (wi hw 23 rfl)) (ty := (.array .int)) (by decide)
    have F63 : Fld Z h55 b55 "com/example/edgewise/edgewise/EdgeSlots" "keptNumbers" "[J" .null := D55 (Or.inl (wi hw 26 rfl)) (ty := (.array .long)) (by decide)
    have F64 : Fld Z h55 b55 "com/example/edgewise/edgewise/EdgeSlots" "keyed" "Z" (.int (0 : Int32)) := D55 (Or.inr (wi hw 28 rfl)) (ty := .boolean) (by decide)
    have F65 : Fld Z h55 b55 "com/example/edgewise/edgewise/EdgeSlots" "bound" "I" (.int (0 : Int32)) := D55 (Or.inl (wi hw 35 rfl)) (ty := .int) (by decide)
    have F66 : Fld Z h55 b55 "com/example/edgewise/edgewise/EdgeSlots" "count" "I" (.int (0 : Int32)) := D55 (Or.inl (wi hw 70 rfl)) (ty := .int) (by decide)
    have F67 : Fld Z h55 b55 "com/example/edgewise/edgewise/EdgeSlots" "nextNumber" "J" (.long (0 : Int64)) := D55 (Or.inl (wi hw 72 rfl)) (ty := .long) (by decide)
    refine g_dup X55 hx hby at_67 (pc' := 68) rfl rfl ?_
    refine g_iload X55 hx hby at_68 (pc' := 70) rfl rfl ?_
    refine Go.callI X55 hx hZ hown rfl (wi hw 4 rfl) (wi hw 5 rfl) (wi hw 3 rfl) (wi hw 6 rfl) (by decide) e55 (a := b55) (argsL := [(.int (1 : Int32))]) (rest := [(.ref b55)]) (W := 1) (rm_init1 l Z a0 hw b55 h55 n0 (Nat.le_trans Z0 E55.1) A55 F57 F58 F59 F60 F61 F62 F63 F64 F65 F66 F67 g56) (hb hby at_70) (by rw [hml]; rfl) rfl pd6 rfl rfl (by decide) (by decide) (by decide) (by decide) ?_
    intro v68 T68 L68 X68 hQ68
    obtain ⟨h68, e68⟩ : ∃ z, T68.heap = z := ⟨_, rfl⟩
    rw [e68] at hQ68
    obtain ⟨b1_68, b2_68, b3_68, b4_68, b5_68, b6_68, b7_68, rfl, Nq68, Kq68, gqb1_68, sqb1_68, gqb2_68, sqb2_68, gqb3_68, sqb3_68, gqb4_68, sqb4_68, gqb5_68, sqb5_68, gqb6_68, sqb6_68, gqb7_68, sqb7_68, nqb1_b2_68, nqb1_b3_68, nqb1_b4_68, nqb1_b5_68, nqb1_b6_68, nqb1_b7_68, nqb2_b3_68, nqb2_b4_68, nqb2_b5_68, nqb2_b6_68, nqb2_b7_68, nqb3_b4_68, nqb3_b5_68, nqb3_b6_68, nqb3_b7_68, nqb4_b5_68, nqb4_b6_68, nqb4_b7_68, nqb5_b6_68, nqb5_b7_68, nqb6_b7_68, Fq0_68, Fq1_68, Fq2_68, Fq3_68, Fq4_68, Fq5_68, Fq6_68, Fq7_68, Fq8_68, Fq9_68, Fq10_68, Fq11_68, Fq12_68, Fq13_68, Fq14_68, Fq15_68, Fq16_68, Fq17_68⟩ := hQ68
    have N68 := Fr.app N0 Nq68
    refine Go.void (pc' := 73) rfl ?_
    refine g_astore X68 hx hby at_73 (pc' := 75) rfl rfl (L' := #[.val (.int p1), .val (.int p2), .val (.int p3), .val (.int p4), .val (.int p5), .val (.int p6), .val (.int (1 : Int32)), .val (.int v51), .val (.int v52), .val (.int v53), .val (.int v54), .val (.int p6), .val (.int p5), .val (.ref b55), .unset, .unset, .unset, .unset, .unset, .unset, .unset, .unset]) rfl ?_
    refine g_aload X68 hx hby at_75 (pc' := 77) rfl rfl rfl ?_
    refine g_iload X68 hx hby at_77 (pc' := 79) rfl rfl ?_
    refine g_iload X68 hx hby at_79 (pc' := 81) rfl rfl ?_
    refine Go.of (fun _ k => XS.dconst1 X68.here hx rfl (hb hby at_81) (v := FP.dconst1) rfl k) ?_
    show Go p.tables e below s _ _ _ (T68.setTop (mkF m 82 #[.val (.int p1), .val (.int p2), .val (.int p3), .val (.int p4), .val (.int p5), .val (.int p6), .val (.int (1 : Int32)), .val (.int v51), .val (.int v52), .val (.int v53), .val (.int v54), .val (.int p6), .val (.int p5), .val (.ref b55), .unset, .unset, .unset, .unset, .unset, .unset, .unset, .unset] [(.double FP.dconst1), (.int v52), (.int v51), (.ref b55)]))
    refine g_iload X68 hx hby at_82 (pc' := 84) rfl rfl ?_
    have f70 := A55.keep Kq68
    have ne71 : b55 ≠ b1_68 := Nat.ne_of_lt (Nat.lt_of_lt_of_le F67.lt sqb1_68)
    have ne72 : b55 ≠ b2_68 := Nat.ne_of_lt (Nat.lt_of_lt_of_le F67.lt sqb2_68)
    have ne73 : b55 ≠ b3_68 := Nat.ne_of_lt (Nat.lt_of_lt_of_le F67.lt sqb3_68)
    have ne74 : b55 ≠ b4_68 := Nat.ne_of_lt (Nat.lt_of_lt_of_le F67.lt sqb4_68)
    have ne75 : b55 ≠ b5_68 := Nat.ne_of_lt (Nat.lt_of_lt_of_le F67.lt sqb5_68)
    have ne76 : b55 ≠ b6_68 := Nat.ne_of_lt (Nat.lt_of_lt_of_le F67.lt sqb6_68)
    refine Go.callV X68 hx hZ hown (wi hw 29 rfl) (wi hw 30 rfl) (notFace_of_selects (args := #[]) (mvT hZ (wi hw 32 rfl))) (wi hw 32 rfl) (wi hw 31 rfl) (wi hw 3 rfl) (wi hw 33 rfl) (by decide) e68 (a := b55) (argsL := [(.int v51), (.int v52), (.double FP.dconst1), (.int p6)]) (rest := []) (W := 0) f70 (rm_addA1 l Z a0 hw b55 v51 v52 FP.dconst1 p6 b1_68 b2_68 b3_68 b4_68 b5_68 b6_68 b7_68 (fun _ => (0 : Int32)) (fun _ => (0 : Int32)) (fun _ => (0 : Int32)) (fun _ => (0 : Int32)) (fun _ => (0 : UInt64)) (fun _ => (0 : Int32)) (0 : Int32) (0 : Int64) h68 n0 (Nat.le_trans (Nat.le_trans Z0 E55.1) Kq68.1) f70 Fq7_68 Fq6_68 Fq0_68 Fq1_68 Fq2_68 Fq3_68 Fq4_68 Fq5_68 Fq11_68 Fq12_68 Fq13_68 Fq14_68 Fq15_68 Fq16_68 Fq8_68 Fq9_68 Fq10_68 (Ne.symm ne71) (Ne.symm ne72) (Ne.symm ne73) (Ne.symm ne74) (Ne.symm ne75) (Ne.symm ne76) g56) (hb hby at_84) (by rw [hml]; rfl) rfl pd7 rfl rfl (by decide) (by decide) (by decide) (by decide) ?_
    intro v69 T69 L69 X69 hQ69
    obtain ⟨h69, e69⟩ : ∃ z, T69.heap = z := ⟨_, rfl⟩
    rw [e69] at hQ69
    obtain ⟨b1_69, b2_69, b3_69, b4_69, b5_69, b6_69, rfl, Nq69, Kq69, gqb1_69, sqb1_69, gqb2_69, sqb2_69, gqb3_69, sqb3_69, gqb4_69, sqb4_69, gqb5_69, sqb5_69, gqb6_69, sqb6_69, nqb1_b2_69, nqb1_b3_69, nqb1_b4_69, nqb1_b5_69, nqb1_b6_69, nqb2_b3_69, nqb2_b4_69, nqb2_b5_69, nqb2_b6_69, nqb3_b4_69, nqb3_b5_69, nqb3_b6_69, nqb4_b5_69, nqb4_b6_69, nqb5_b6_69, Fq0_69, Fq1_69, Fq2_69, Fq3_69, Fq4_69, Fq5_69, Fq6_69, Fq7_69, Fq8_69, Fq9_69, Fq10_69, Fq11_69, Fq12_69, Fq13_69, Fq14_69, Fq15_69, Fq16_69⟩ := hQ69
    have N69 := Fr.app N68 Nq69
    have Fq9_69 : Fld Z h69 b55 "com/example/edgewise/edgewise/EdgeSlots" "count" "I" (.int (1 : Int32)) := Fq9_69
    have Fq10_69 : Fld Z h69 b55 "com/example/edgewise/edgewise/EdgeSlots" "nextNumber" "J" (.long (1 : Int64)) := Fq10_69
    refine Go.push (pc' := 87) rfl ?_
    refine g_pop X69 hx hby at_87 (pc' := 88) rfl rfl ?_
    refine g_aload X69 hx hby at_88 (pc' := 90) rfl rfl rfl ?_
    refine g_iload X69 hx hby at_90 (pc' := 92) rfl rfl ?_
    refine g_iload X69 hx hby at_92 (pc' := 94) rfl rfl ?_
    refine g_ldcD X69 hx hby hZ hown (wi hw 73 rfl) at_94 (pc' := 97) rfl ?_
    refine g_iload X69 hx hby at_97 (pc' := 99) rfl rfl ?_
    have f78 := f70.keep Kq69
    have ne79 : b55 ≠ b1_69 := Nat.ne_of_lt (Nat.lt_of_lt_of_le f70.lt sqb1_69)
    have ne80 : b55 ≠ b2_69 := Nat.ne_of_lt (Nat.lt_of_lt_of_le f70.lt sqb2_69)
    have ne81 : b55 ≠ b5_69 := Nat.ne_of_lt (Nat.lt_of_lt_of_le f70.lt sqb5_69)
    have ne82 : b55 ≠ b6_69 := Nat.ne_of_lt (Nat.lt_of_lt_of_le f70.lt sqb6_69)
    refine Go.callV X69 hx hZ hown (wi hw 29 rfl) (wi hw 30 rfl) (notFace_of_selects (args := #[]) (mvT hZ (wi hw 32 rfl))) (wi hw 32 rfl) (wi hw 31 rfl) (wi hw 3 rfl) (wi hw 33 rfl) (by decide) e69 (a := b55) (argsL := [(.int v53), (.int v54), (.double (4611686018427387904 : UInt64)), (.int p5)]) (rest := []) (W := 0) f78 (rm_addB1 l Z a0 hw b55 v53 v54 (4611686018427387904 : UInt64) p5 b1_69 b2_69 b3_69 b4_69 b5_69 b6_69 b7_68 (upI (fun _ => (0 : Int32)) 0 v51) (upI (fun _ => (0 : Int32)) 0 v52) (upD (fun _ => (0 : UInt64)) 0 FP.dconst1) (upI (fun _ => (0 : Int32)) 0 p6) (1 : Int32) (1 : Int32) (1 : Int64) 1 h69 n0 (Nat.le_trans (Nat.le_trans (Nat.le_trans Z0 E55.1) Kq68.1) Kq69.1) f78 Fq0_69 Fq1_69 Fq2_69 Fq3_69 Fq4_69 Fq5_69 Fq6_69 Fq7_69 Fq11_69 Fq12_69 Fq15_69 Fq16_69 Fq8_69 Fq9_69 Fq10_69 (Ne.symm ne79) (Ne.symm ne80) (Ne.symm ne81) (Ne.symm ne82) nqb1_b2_69 nqb1_b5_69 nqb1_b6_69 nqb2_b5_69 nqb2_b6_69 nqb5_b6_69 g56 gqb1_69 gqb2_69 gqb5_69 gqb6_69 rfl (by decide)) (hb hby at_99) (by rw [hml]; rfl) rfl pd7 rfl rfl (by decide) (by decide) (by decide) (by decide) ?_
    intro v77 T77 L77 X77 hQ77
    obtain ⟨h77, e77⟩ : ∃ z, T77.heap = z := ⟨_, rfl⟩
    rw [e77] at hQ77
    obtain ⟨rfl, Nq77, Kq77, Fq0_77, Fq1_77, Fq2_77, Fq3_77, Fq4_77, Fq5_77, Fq6_77, Fq7_77, Fq8_77, Fq9_77, Fq10_77, Fq11_77, Fq12_77, Fq13_77, Fq14_77⟩ := hQ77
    have N77 := Fr.app N69 Nq77
    have Fq8_77 : Fld Z h77 b55 "com/example/edgewise/edgewise/EdgeSlots" "bound" "I" (.int (2 : Int32)) := Fq8_77
    have Fq9_77 : Fld Z h77 b55 "com/example/edgewise/edgewise/EdgeSlots" "count" "I" (.int (2 : Int32)) := Fq9_77
    have Fq10_77 : Fld Z h77 b55 "com/example/edgewise/edgewise/EdgeSlots" "nextNumber" "J" (.long (2 : Int64)) := Fq10_77
    refine Go.push (pc' := 102) rfl ?_
    refine g_pop X77 hx hby at_102 (pc' := 103) rfl rfl ?_
    refine g_iload X77 hx hby at_103 (pc' := 105) rfl rfl ?_
    refine g_iconst X77 hx hby at_105 (pc' := 106) rfl (z := (1 : Int32)) rfl ?_
    refine g_iand X77 hx hby at_106 (pc' := 107) rfl rfl ?_
    generalize hv83 : (p5 &&& (1 : Int32)) = v83
    refine g_istore X77 hx hby at_107 (pc' := 109) rfl (L' := #[.val (.int p1), .val (.int p2), .val (.int p3), .val (.int p4), .val (.int p5), .val (.int p6), .val (.int (1 : Int32)), .val (.int v51), .val (.int v52), .val (.int v53), .val (.int v54), .val (.int p6), .val (.int p5), .val (.ref b55), .val (.int v83), .unset, .unset, .unset, .unset, .unset, .unset, .unset]) rfl ?_
    have hr : v83 = (0 : Int32) ∨ v83 = (1 : Int32) := by
      have : v83.toInt = 0 ∨ v83.toInt = 1 := by rw [← hv83]; have : (p5 &&& (1 : Int32)).toInt = p5.toInt % 2 := c_mask _ _ 1 (by decide) (by decide); have : -2147483648 ≤ (p5 &&& (1 : Int32)).toInt ∧ (p5 &&& (1 : Int32)).toInt < 2147483648 := rng32 _; have : -2147483648 ≤ p5.toInt ∧ p5.toInt < 2147483648 := rng32 _; omega
      exact this.imp (fun h => Int32.toInt_inj.mp h) (fun h => Int32.toInt_inj.mp h)
    clear hv83
    rcases hr with rfl | rfl
    · show Go p.tables e below s _ _ _ (T77.setTop (mkF m 109 #[.val (.int p1), .val (.int p2), .val (.int p3), .val (.int p4), .val (.int p5), .val (.int p6), .val (.int (1 : Int32)), .val (.int v51), .val (.int v52), .val (.int v53), .val (.int v54), .val (.int p6), .val (.int p5), .val (.ref b55), .val (.int (0 : Int32)), .unset, .unset, .unset, .unset, .unset, .unset, .unset] []))
      refine g_aload X77 hx hby at_109 (pc' := 111) rfl rfl rfl ?_
      refine g_iload X77 hx hby at_111 (pc' := 113) rfl rfl ?_
      have f85 := f78.keep Kq77
      refine Go.callV X77 hx hZ hown (wi hw 74 rfl) (wi hw 75 rfl) (notFace_of_selects (args := #[]) (mvT hZ (wi hw 77 rfl))) (wi hw 77 rfl) (wi hw 76 rfl) (wi hw 3 rfl) (wi hw 78 rfl) (by decide) e77 (a := b55) (argsL := [(.int (0 : Int32))]) (rest := []) (W := 0) f85 (rm_remove4 l Z a0 hw b55 (0 : Int32) b1_69 b2_69 (upI (upI (fun _ => (0 : Int32)) 0 v51) 1 v53) (upI (upI (fun _ => (0 : Int32)) 0 v52) 1 v54) (2 : Int32) (2 : Int32) 0 h77 n0 (Nat.le_trans (Nat.le_trans (Nat.le_trans (Nat.le_trans Z0 E55.1) Kq68.1) Kq69.1) Kq77.1) f85 Fq2_77 Fq3_77 Fq11_77 Fq12_77 Fq8_77 Fq9_77 (Ne.symm ne79) (Ne.symm ne80) nqb1_b2_69 g56 gqb1_69 gqb2_69 rfl (by decide)) (hb hby at_113) (by rw [hml]; rfl) rfl pd5 rfl rfl (by decide) (by decide) (by decide) (by decide) ?_
      intro v84 T84 L84 X84 hQ84
      obtain ⟨h84, e84⟩ : ∃ z, T84.heap = z := ⟨_, rfl⟩
      rw [e84] at hQ84
      obtain ⟨rfl, Nq84, Kq84, Fq0_84, Fq1_84, Fq2_84, Fq3_84, Fq4_84, Fq5_84⟩ := hQ84
      have N84 := Fr.app N77 Nq84
      have Fq5_84 : Fld Z h84 b55 "com/example/edgewise/edgewise/EdgeSlots" "count" "I" (.int (1 : Int32)) := Fq5_84
      refine Go.void (pc' := 116) rfl ?_
      refine g_iload X84 hx hby at_116 (pc' := 118) rfl rfl ?_
      have hc118 : (0 : Int) = (0 : Int) := by decide
      refine g_ifNo X84 hx hby at_118 (pc' := 121) (teq (show (0 : Int32) = (0 : Int32) from Int32.toInt_inj.mp hc118)).2 rfl ?_
      refine g_iconst X84 hx hby at_121 (pc' := 122) rfl (z := (-1 : Int32)) rfl ?_
      refine g_goto X84 hx hby at_122 (pc' := 127) (by decide) (by decide) ?_
      refine g_istore X84 hx hby at_127 (pc' := 129) rfl (L' := #[.val (.int p1), .val (.int p2), .val (.int p3), .val (.int p4), .val (.int p5), .val (.int p6), .val (.int (1 : Int32)), .val (.int v51), .val (.int v52), .val (.int v53), .val (.int v54), .val (.int p6), .val (.int p5), .val (.ref b55), .val (.int (0 : Int32)), .val (.int (-1 : Int32)), .unset, .unset, .unset, .unset, .unset, .unset]) rfl ?_
      refine g_iload X84 hx hby at_129 (pc' := 131) rfl rfl ?_
      have hc131 : (0 : Int) = (0 : Int) := by decide
      refine g_ifNo X84 hx hby at_131 (pc' := 134) (teq (show (0 : Int32) = (0 : Int32) from Int32.toInt_inj.mp hc131)).2 rfl ?_
      refine g_iconst X84 hx hby at_134 (pc' := 135) rfl (z := (-1 : Int32)) rfl ?_
      refine g_goto X84 hx hby at_135 (pc' := 140) (by decide) (by decide) ?_
      refine g_istore X84 hx hby at_140 (pc' := 142) rfl (L' := #[.val (.int p1), .val (.int p2), .val (.int p3), .val (.int p4), .val (.int p5), .val (.int p6), .val (.int (1 : Int32)), .val (.int v51), .val (.int v52), .val (.int v53), .val (.int v54), .val (.int p6), .val (.int p5), .val (.ref b55), .val (.int (0 : Int32)), .val (.int (-1 : Int32)), .val (.int (-1 : Int32)), .unset, .unset, .unset, .unset, .unset]) rfl ?_
      refine g_iload X84 hx hby at_142 (pc' := 144) rfl rfl ?_
      refine g_iconst X84 hx hby at_144 (pc' := 145) rfl (z := (1 : Int32)) rfl ?_
      have hc145 : ¬ ((0 : Int) = (1 : Int)) := by decide
      refine g_icmpYes X84 hx hby at_145 (pc' := 152) (feq (show ¬ ((0 : Int32) = (1 : Int32)) from fun q => hc145 (congrArg Int32.toInt q))).2 (by decide) (by decide) ?_
      refine g_iload X84 hx hby at_152 (pc' := 154) rfl rfl ?_
      refine g_istore X84 hx hby at_154 (pc' := 156) rfl (L' := #[.val (.int p1), .val (.int p2), .val (.int p3), .val (.int p4), .val (.int p5), .val (.int p6), .val (.int (1 : Int32)), .val (.int v51), .val (.int v52), .val (.int v53), .val (.int v54), .val (.int p6), .val (.int p5), .val (.ref b55), .val (.int (0 : Int32)), .val (.int (-1 : Int32)), .val (.int (-1 : Int32)), .val (.int v53), .unset, .unset, .unset, .unset]) rfl ?_
      refine g_iload X84 hx hby at_156 (pc' := 158) rfl rfl ?_
      refine g_iconst X84 hx hby at_158 (pc' := 159) rfl (z := (1 : Int32)) rfl ?_
      have hc159 : ¬ ((0 : Int) = (1 : Int)) := by decide
      refine g_icmpYes X84 hx hby at_159 (pc' := 166) (feq (show ¬ ((0 : Int32) = (1 : Int32)) from fun q => hc159 (congrArg Int32.toInt q))).2 (by decide) (by decide) ?_
      refine g_iload X84 hx hby at_166 (pc' := 168) rfl rfl ?_
      refine g_istore X84 hx hby at_168 (pc' := 170) rfl (L' := #[.val (.int p1), .val (.int p2), .val (.int p3), .val (.int p4), .val (.int p5), .val (.int p6), .val (.int (1 : Int32)), .val (.int v51), .val (.int v52), .val (.int v53), .val (.int v54), .val (.int p6), .val (.int p5), .val (.ref b55), .val (.int (0 : Int32)), .val (.int (-1 : Int32)), .val (.int (-1 : Int32)), .val (.int v53), .val (.int v54), .unset, .unset, .unset]) rfl ?_
      refine g_aload X84 hx hby at_170 (pc' := 172) rfl rfl rfl ?_
      have f87 := f85.keep Kq84
      refine Go.callV X84 hx hZ hown (wi hw 79 rfl) (wi hw 80 rfl) (notFace_of_selects (args := #[]) (mvT hZ (wi hw 82 rfl))) (wi hw 82 rfl) (wi hw 81 rfl) (wi hw 3 rfl) (wi hw 83 rfl) (by decide) e84 (a := b55) (argsL := []) (rest := []) (W := 0) f87 (rm_count l Z a0 hw b55 (1 : Int32) h84 n0 (Nat.le_trans (Nat.le_trans (Nat.le_trans (Nat.le_trans (Nat.le_trans Z0 E55.1) Kq68.1) Kq69.1) Kq77.1) Kq84.1) Fq5_84) (hb hby at_172) (by rw [hml]; rfl) rfl pd8 rfl rfl (by decide) (by decide) (by decide) (by decide) ?_
      intro v86 T86 L86 X86 hQ86
      obtain ⟨rfl, Nq86, hh86⟩ := hQ86
      have N86 := Fr.app N84 Nq86
      refine Go.push (pc' := 175) rfl ?_
      refine g_iconst X86 hx hby at_175 (pc' := 176) rfl (z := (1 : Int32)) rfl ?_
      have hc176 : (1 : Int) = (1 : Int) := by decide
      refine g_icmpNo X86 hx hby at_176 (pc' := 179) (teq (show (1 : Int32) = (1 : Int32) from Int32.toInt_inj.mp hc176)).2 rfl ?_
      refine g_aload X86 hx hby at_179 (pc' := 181) rfl rfl rfl ?_
      refine Go.callV X86 hx hZ hown (wi hw 84 rfl) (wi hw 85 rfl) (notFace_of_selects (args := #[]) (mvT hZ (wi hw 87 rfl))) (wi hw 87 rfl) (wi hw 86 rfl) (wi hw 3 rfl) (wi hw 88 rfl) (by decide) hh86 (a := b55) (argsL := []) (rest := []) (W := 0) f87 (rm_bound l Z a0 hw b55 (2 : Int32) h84 n0 (Nat.le_trans (Nat.le_trans (Nat.le_trans (Nat.le_trans (Nat.le_trans Z0 E55.1) Kq68.1) Kq69.1) Kq77.1) Kq84.1) Fq4_84) (hb hby at_181) (by rw [hml]; rfl) rfl pd8 rfl rfl (by decide) (by decide) (by decide) (by decide) ?_
      intro v88 T88 L88 X88 hQ88
      obtain ⟨rfl, Nq88, hh88⟩ := hQ88
      have N88 := Fr.app N86 Nq88
      refine Go.push (pc' := 184) rfl ?_
      refine g_iconst X88 hx hby at_184 (pc' := 185) rfl (z := (2 : Int32)) rfl ?_
      have hc185 : (2 : Int) = (2 : Int) := by decide
      refine g_icmpNo X88 hx hby at_185 (pc' := 188) (teq (show (2 : Int32) = (2 : Int32) from Int32.toInt_inj.mp hc185)).2 rfl ?_
      refine g_iconst X88 hx hby at_188 (pc' := 189) rfl (z := (1 : Int32)) rfl ?_
      refine g_goto X88 hx hby at_189 (pc' := 193) (by decide) (by decide) ?_
      refine g_istore X88 hx hby at_193 (pc' := 195) rfl (L' := #[.val (.int p1), .val (.int p2), .val (.int p3), .val (.int p4), .val (.int p5), .val (.int p6), .val (.int (1 : Int32)), .val (.int v51), .val (.int v52), .val (.int v53), .val (.int v54), .val (.int p6), .val (.int p5), .val (.ref b55), .val (.int (0 : Int32)), .val (.int (-1 : Int32)), .val (.int (-1 : Int32)), .val (.int v53), .val (.int v54), .val (.int (1 : Int32)), .unset, .unset]) rfl ?_
      refine g_aload X88 hx hby at_195 (pc' := 197) rfl rfl rfl ?_
      refine g_iconst X88 hx hby at_197 (pc' := 198) rfl (z := (0 : Int32)) rfl ?_
      refine Go.callV X88 hx hZ hown (wi hw 89 rfl) (wi hw 90 rfl) (notFace_of_selects (args := #[]) (mvT hZ (wi hw 92 rfl))) (wi hw 92 rfl) (wi hw 91 rfl) (wi hw 3 rfl) (wi hw 93 rfl) (by decide) hh88 (a := b55) (argsL := [(.int (0 : Int32))]) (rest := []) (W := 0) f87 (rm_source l Z a0 hw b55 (0 : Int32) b1_69 (upI (upI (upI (fun _ => (0 : Int32)) 0 v51) 1 v53) 0 (-1 : Int32)) 0 h84 n0 (Nat.le_trans (Nat.le_trans (Nat.le_trans (Nat.le_trans (Nat.le_trans Z0 E55.1) Kq68.1) Kq69.1) Kq77.1) Kq84.1) Fq0_84 Fq2_84 rfl (by decide)) (hb hby at_198) (by rw [hml]; rfl) rfl pd4 rfl rfl (by decide) (by decide) (by decide) (by decide) ?_
      intro v89 T89 L89 X89 hQ89
      obtain ⟨rfl, Nq89, hh89⟩ := hQ89
      have N89 := Fr.app N88 Nq89
      show Go p.tables e below s _ _ _ (T89.setTop (mkF m 201 #[.val (.int p1), .val (.int p2), .val (.int p3), .val (.int p4), .val (.int p5), .val (.int p6), .val (.int (1 : Int32)), .val (.int v51), .val (.int v52), .val (.int v53), .val (.int v54), .val (.int p6), .val (.int p5), .val (.ref b55), .val (.int (0 : Int32)), .val (.int (-1 : Int32)), .val (.int (-1 : Int32)), .val (.int v53), .val (.int v54), .val (.int (1 : Int32)), .unset, .unset] [(.int (-1 : Int32))]))
      refine g_iload X89 hx hby at_201 (pc' := 203) rfl rfl ?_
      have hc203 : (-1 : Int) = (-1 : Int) := by decide
      refine g_icmpNo X89 hx hby at_203 (pc' := 206) (teq (show (-1 : Int32) = (-1 : Int32) from Int32.toInt_inj.mp hc203)).2 rfl ?_
      refine g_aload X89 hx hby at_206 (pc' := 208) rfl rfl rfl ?_
      refine g_iconst X89 hx hby at_208 (pc' := 209) rfl (z := (0 : Int32)) rfl ?_
      refine Go.callV X89 hx hZ hown (wi hw 94 rfl) (wi hw 95 rfl) (notFace_of_selects (args := #[]) (mvT hZ (wi hw 97 rfl))) (wi hw 97 rfl) (wi hw 96 rfl) (wi hw 3 rfl) (wi hw 98 rfl) (by decide) hh89 (a := b55) (argsL := [(.int (0 : Int32))]) (rest := []) (W := 0) f87 (rm_target l Z a0 hw b55 (0 : Int32) b2_69 (upI (upI (upI (fun _ => (0 : Int32)) 0 v52) 1 v54) 0 (-1 : Int32)) 0 h84 n0 (Nat.le_trans (Nat.le_trans (Nat.le_trans (Nat.le_trans (Nat.le_trans Z0 E55.1) Kq68.1) Kq69.1) Kq77.1) Kq84.1) Fq1_84 Fq3_84 rfl (by decide)) (hb hby at_209) (by rw [hml]; rfl) rfl pd4 rfl rfl (by decide) (by decide) (by decide) (by decide) ?_
      intro v90 T90 L90 X90 hQ90
      obtain ⟨rfl, Nq90, hh90⟩ := hQ90
      have N90 := Fr.app N89 Nq90
      show Go p.tables e below s _ _ _ (T90.setTop (mkF m 212 #[.val (.int p1), .val (.int p2), .val (.int p3), .val (.int p4), .val (.int p5), .val (.int p6), .val (.int (1 : Int32)), .val (.int v51), .val (.int v52), .val (.int v53), .val (.int v54), .val (.int p6), .val (.int p5), .val (.ref b55), .val (.int (0 : Int32)), .val (.int (-1 : Int32)), .val (.int (-1 : Int32)), .val (.int v53), .val (.int v54), .val (.int (1 : Int32)), .unset, .unset] [(.int (-1 : Int32))]))
      refine g_iload X90 hx hby at_212 (pc' := 214) rfl rfl ?_
      have hc214 : (-1 : Int) = (-1 : Int) := by decide
      refine g_icmpNo X90 hx hby at_214 (pc' := 217) (teq (show (-1 : Int32) = (-1 : Int32) from Int32.toInt_inj.mp hc214)).2 rfl ?_
      refine g_iconst X90 hx hby at_217 (pc' := 218) rfl (z := (1 : Int32)) rfl ?_
      refine g_goto X90 hx hby at_218 (pc' := 222) (by decide) (by decide) ?_
      refine g_istore X90 hx hby at_222 (pc' := 224) rfl (L' := #[.val (.int p1), .val (.int p2), .val (.int p3), .val (.int p4), .val (.int p5), .val (.int p6), .val (.int (1 : Int32)), .val (.int v51), .val (.int v52), .val (.int v53), .val (.int v54), .val (.int p6), .val (.int p5), .val (.ref b55), .val (.int (0 : Int32)), .val (.int (-1 : Int32)), .val (.int (-1 : Int32)), .val (.int v53), .val (.int v54), .val (.int (1 : Int32)), .val (.int (1 : Int32)), .unset]) rfl ?_
      refine g_aload X90 hx hby at_224 (pc' := 226) rfl rfl rfl ?_
      refine g_iconst X90 hx hby at_226 (pc' := 227) rfl (z := (1 : Int32)) rfl ?_
      refine Go.callV X90 hx hZ hown (wi hw 89 rfl) (wi hw 90 rfl) (notFace_of_selects (args := #[]) (mvT hZ (wi hw 92 rfl))) (wi hw 92 rfl) (wi hw 91 rfl) (wi hw 3 rfl) (wi hw 93 rfl) (by decide) hh90 (a := b55) (argsL := [(.int (1 : Int32))]) (rest := []) (W := 0) f87 (rm_source l Z a0 hw b55 (1 : Int32) b1_69 (upI (upI (upI (fun _ => (0 : Int32)) 0 v51) 1 v53) 0 (-1 : Int32)) 1 h84 n0 (Nat.le_trans (Nat.le_trans (Nat.le_trans (Nat.le_trans (Nat.le_trans Z0 E55.1) Kq68.1) Kq69.1) Kq77.1) Kq84.1) Fq0_84 Fq2_84 rfl (by decide)) (hb hby at_227) (by rw [hml]; rfl) rfl pd4 rfl rfl (by decide) (by decide) (by decide) (by decide) ?_
      intro v91 T91 L91 X91 hQ91
      obtain ⟨rfl, Nq91, hh91⟩ := hQ91
      have N91 := Fr.app N90 Nq91
      show Go p.tables e below s _ _ _ (T91.setTop (mkF m 230 #[.val (.int p1), .val (.int p2), .val (.int p3), .val (.int p4), .val (.int p5), .val (.int p6), .val (.int (1 : Int32)), .val (.int v51), .val (.int v52), .val (.int v53), .val (.int v54), .val (.int p6), .val (.int p5), .val (.ref b55), .val (.int (0 : Int32)), .val (.int (-1 : Int32)), .val (.int (-1 : Int32)), .val (.int v53), .val (.int v54), .val (.int (1 : Int32)), .val (.int (1 : Int32)), .unset] [(.int v53)]))
      refine g_iload X91 hx hby at_230 (pc' := 232) rfl rfl ?_
      have hc232 : v53.toInt = v53.toInt := rfl
      refine g_icmpNo X91 hx hby at_232 (pc' := 235) (teq (show v53 = v53 from Int32.toInt_inj.mp hc232)).2 rfl ?_
      refine g_aload X91 hx hby at_235 (pc' := 237) rfl rfl rfl ?_
      refine g_iconst X91 hx hby at_237 (pc' := 238) rfl (z := (1 : Int32)) rfl ?_
      refine Go.callV X91 hx hZ hown (wi hw 94 rfl) (wi hw 95 rfl) (notFace_of_selects (args := #[]) (mvT hZ (wi hw 97 rfl))) (wi hw 97 rfl) (wi hw 96 rfl) (wi hw 3 rfl) (wi hw 98 rfl) (by decide) hh91 (a := b55) (argsL := [(.int (1 : Int32))]) (rest := []) (W := 0) f87 (rm_target l Z a0 hw b55 (1 : Int32) b2_69 (upI (upI (upI (fun _ => (0 : Int32)) 0 v52) 1 v54) 0 (-1 : Int32)) 1 h84 n0 (Nat.le_trans (Nat.le_trans (Nat.le_trans (Nat.le_trans (Nat.le_trans Z0 E55.1) Kq68.1) Kq69.1) Kq77.1) Kq84.1) Fq1_84 Fq3_84 rfl (by decide)) (hb hby at_238) (by rw [hml]; rfl) rfl pd4 rfl rfl (by decide) (by decide) (by decide) (by decide) ?_
      intro v92 T92 L92 X92 hQ92
      obtain ⟨rfl, Nq92, hh92⟩ := hQ92
      have N92 := Fr.app N91 Nq92
      show Go p.tables e below s _ _ _ (T92.setTop (mkF m 241 #[.val (.int p1), .val (.int p2), .val (.int p3), .val (.int p4), .val (.int p5), .val (.int p6), .val (.int (1 : Int32)), .val (.int v51), .val (.int v52), .val (.int v53), .val (.int v54), .val (.int p6), .val (.int p5), .val (.ref b55), .val (.int (0 : Int32)), .val (.int (-1 : Int32)), .val (.int (-1 : Int32)), .val (.int v53), .val (.int v54), .val (.int (1 : Int32)), .val (.int (1 : Int32)), .unset] [(.int v54)]))
      refine g_iload X92 hx hby at_241 (pc' := 243) rfl rfl ?_
      have hc243 : v54.toInt = v54.toInt := rfl
      refine g_icmpNo X92 hx hby at_243 (pc' := 246) (teq (show v54 = v54 from Int32.toInt_inj.mp hc243)).2 rfl ?_
      refine g_iconst X92 hx hby at_246 (pc' := 247) rfl (z := (1 : Int32)) rfl ?_
      refine g_goto X92 hx hby at_247 (pc' := 251) (by decide) (by decide) ?_
      refine g_istore X92 hx hby at_251 (pc' := 253) rfl (L' := #[.val (.int p1), .val (.int p2), .val (.int p3), .val (.int p4), .val (.int p5), .val (.int p6), .val (.int (1 : Int32)), .val (.int v51), .val (.int v52), .val (.int v53), .val (.int v54), .val (.int p6), .val (.int p5), .val (.ref b55), .val (.int (0 : Int32)), .val (.int (-1 : Int32)), .val (.int (-1 : Int32)), .val (.int v53), .val (.int v54), .val (.int (1 : Int32)), .val (.int (1 : Int32)), .val (.int (1 : Int32))]) rfl ?_
      refine g_iload X92 hx hby at_253 (pc' := 255) rfl rfl ?_
      have hc255 : ¬ ((1 : Int) = (0 : Int)) := by decide
      refine g_ifNo X92 hx hby at_255 (pc' := 258) (feq (show ¬ ((1 : Int32) = (0 : Int32)) from fun q => hc255 (congrArg Int32.toInt q))).1 rfl ?_
      refine g_iload X92 hx hby at_258 (pc' := 260) rfl rfl ?_
      have hc260 : ¬ ((1 : Int) = (0 : Int)) := by decide
      refine g_ifNo X92 hx hby at_260 (pc' := 263) (feq (show ¬ ((1 : Int32) = (0 : Int32)) from fun q => hc260 (congrArg Int32.toInt q))).1 rfl ?_
      refine g_iload X92 hx hby at_263 (pc' := 265) rfl rfl ?_
      have hc265 : ¬ ((1 : Int) = (0 : Int)) := by decide
      refine g_ifNo X92 hx hby at_265 (pc' := 268) (feq (show ¬ ((1 : Int32) = (0 : Int32)) from fun q => hc265 (congrArg Int32.toInt q))).1 rfl ?_
      refine g_iconst X92 hx hby at_268 (pc' := 269) rfl (z := (1 : Int32)) rfl ?_
      refine g_goto X92 hx hby at_269 (pc' := 273) (by decide) (by decide) ?_
      refine Go.retZ X92 hx hlk hret (by simp) (hb hby at_273) (by decide) (by decide) ?_
      exact ⟨rfl, N92⟩
    · show Go p.tables e below s _ _ _ (T77.setTop (mkF m 109 #[.val (.int p1), .val (.int p2), .val (.int p3), .val (.int p4), .val (.int p5), .val (.int p6), .val (.int (1 : Int32)), .val (.int v51), .val (.int v52), .val (.int v53), .val (.int v54), .val (.int p6), .val (.int p5), .val (.ref b55), .val (.int (1 : Int32)), .unset, .unset, .unset, .unset, .unset, .unset, .unset] []))
      refine g_aload X77 hx hby at_109 (pc' := 111) rfl rfl rfl ?_
      refine g_iload X77 hx hby at_111 (pc' := 113) rfl rfl ?_
      have f94 := f78.keep Kq77
      refine Go.callV X77 hx hZ hown (wi hw 74 rfl) (wi hw 75 rfl) (notFace_of_selects (args := #[]) (mvT hZ (wi hw 77 rfl))) (wi hw 77 rfl) (wi hw 76 rfl) (wi hw 3 rfl) (wi hw 78 rfl) (by decide) e77 (a := b55) (argsL := [(.int (1 : Int32))]) (rest := []) (W := 0) f94 (rm_remove4 l Z a0 hw b55 (1 : Int32) b1_69 b2_69 (upI (upI (fun _ => (0 : Int32)) 0 v51) 1 v53) (upI (upI (fun _ => (0 : Int32)) 0 v52) 1 v54) (2 : Int32) (2 : Int32) 1 h77 n0 (Nat.le_trans (Nat.le_trans (Nat.le_trans (Nat.le_trans Z0 E55.1) Kq68.1) Kq69.1) Kq77.1) f94 Fq2_77 Fq3_77 Fq11_77 Fq12_77 Fq8_77 Fq9_77 (Ne.symm ne79) (Ne.symm ne80) nqb1_b2_69 g56 gqb1_69 gqb2_69 rfl (by decide)) (hb hby at_113) (by rw [hml]; rfl) rfl pd5 rfl rfl (by decide) (by decide) (by decide) (by decide) ?_
      intro v93 T93 L93 X93 hQ93
      obtain ⟨h93, e93⟩ : ∃ z, T93.heap = z := ⟨_, rfl⟩
      rw [e93] at hQ93
      obtain ⟨rfl, Nq93, Kq93, Fq0_93, Fq1_93, Fq2_93, Fq3_93, Fq4_93, Fq5_93⟩ := hQ93
      have N93 := Fr.app N77 Nq93
      have Fq5_93 : Fld Z h93 b55 "com/example/edgewise/edgewise/EdgeSlots" "count" "I" (.int (1 : Int32)) := Fq5_93
      refine Go.void (pc' := 116) rfl ?_
      refine g_iload X93 hx hby at_116 (pc' := 118) rfl rfl ?_
      have hc118 : ¬ ((1 : Int) = (0 : Int)) := by decide
      refine g_ifYes X93 hx hby at_118 (pc' := 125) (feq (show ¬ ((1 : Int32) = (0 : Int32)) from fun q => hc118 (congrArg Int32.toInt q))).2 (by decide) (by decide) ?_
      refine g_iload X93 hx hby at_125 (pc' := 127) rfl rfl ?_
      refine g_istore X93 hx hby at_127 (pc' := 129) rfl (L' := #[.val (.int p1), .val (.int p2), .val (.int p3), .val (.int p4), .val (.int p5), .val (.int p6), .val (.int (1 : Int32)), .val (.int v51), .val (.int v52), .val (.int v53), .val (.int v54), .val (.int p6), .val (.int p5), .val (.ref b55), .val (.int (1 : Int32)), .val (.int v51), .unset, .unset, .unset, .unset, .unset, .unset]) rfl ?_
      refine g_iload X93 hx hby at_129 (pc' := 131) rfl rfl ?_
      have hc131 : ¬ ((1 : Int) = (0 : Int)) := by decide
      refine g_ifYes X93 hx hby at_131 (pc' := 138) (feq (show ¬ ((1 : Int32) = (0 : Int32)) from fun q => hc131 (congrArg Int32.toInt q))).2 (by decide) (by decide) ?_
      refine g_iload X93 hx hby at_138 (pc' := 140) rfl rfl ?_
      refine g_istore X93 hx hby at_140 (pc' := 142) rfl (L' := #[.val (.int p1), .val (.int p2), .val (.int p3), .val (.int p4), .val (.int p5), .val (.int p6), .val (.int (1 : Int32)), .val (.int v51), .val (.int v52), .val (.int v53), .val (.int v54), .val (.int p6), .val (.int p5), .val (.ref b55), .val (.int (1 : Int32)), .val (.int v51), .val (.int v52), .unset, .unset, .unset, .unset, .unset]) rfl ?_
      refine g_iload X93 hx hby at_142 (pc' := 144) rfl rfl ?_
      refine g_iconst X93 hx hby at_144 (pc' := 145) rfl (z := (1 : Int32)) rfl ?_
      have hc145 : (1 : Int) = (1 : Int) := by decide
      refine g_icmpNo X93 hx hby at_145 (pc' := 148) (teq (show (1 : Int32) = (1 : Int32) from Int32.toInt_inj.mp hc145)).2 rfl ?_
      refine g_iconst X93 hx hby at_148 (pc' := 149) rfl (z := (-1 : Int32)) rfl ?_
      refine g_goto X93 hx hby at_149 (pc' := 154) (by decide) (by decide) ?_
      refine g_istore X93 hx hby at_154 (pc' := 156) rfl (L' := #[.val (.int p1), .val (.int p2), .val (.int p3), .val (.int p4), .val (.int p5), .val (.int p6), .val (.int (1 : Int32)), .val (.int v51), .val (.int v52), .val (.int v53), .val (.int v54), .val (.int p6), .val (.int p5), .val (.ref b55), .val (.int (1 : Int32)), .val (.int v51), .val (.int v52), .val (.int (-1 : Int32)), .unset, .unset, .unset, .unset]) rfl ?_
      refine g_iload X93 hx hby at_156 (pc' := 158) rfl rfl ?_
      refine g_iconst X93 hx hby at_158 (pc' := 159) rfl (z := (1 : Int32)) rfl ?_
      have hc159 : (1 : Int) = (1 : Int) := by decide
      refine g_icmpNo X93 hx hby at_159 (pc' := 162) (teq (show (1 : Int32) = (1 : Int32) from Int32.toInt_inj.mp hc159)).2 rfl ?_
      refine g_iconst X93 hx hby at_162 (pc' := 163) rfl (z := (-1 : Int32)) rfl ?_
      refine g_goto X93 hx hby at_163 (pc' := 168) (by decide) (by decide) ?_
      refine g_istore X93 hx hby at_168 (pc' := 170) rfl (L' := #[.val (.int p1), .val (.int p2), .val (.int p3), .val (.int p4), .val (.int p5), .val (.int p6), .val (.int (1 : Int32)), .val (.int v51), .val (.int v52), .val (.int v53), .val (.int v54), .val (.int p6), .val (.int p5), .val (.ref b55), .val (.int (1 : Int32)), .val (.int v51), .val (.int v52), .val (.int (-1 : Int32)), .val (.int (-1 : Int32)), .unset, .unset, .unset]) rfl ?_
      refine g_aload X93 hx hby at_170 (pc' := 172) rfl rfl rfl ?_
      have f96 := f94.keep Kq93
      refine Go.callV X93 hx hZ hown (wi hw 79 rfl) (wi hw 80 rfl) (notFace_of_selects (args := #[]) (mvT hZ (wi hw 82 rfl))) (wi hw 82 rfl) (wi hw 81 rfl) (wi hw 3 rfl) (wi hw 83 rfl) (by decide) e93 (a := b55) (argsL := []) (rest := []) (W := 0) f96 (rm_count l Z a0 hw b55 (1 : Int32) h93 n0 (Nat.le_trans (Nat.le_trans (Nat.le_trans (Nat.le_trans (Nat.le_trans Z0 E55.1) Kq68.1) Kq69.1) Kq77.1) Kq93.1) Fq5_93) (hb hby at_172) (by rw [hml]; rfl) rfl pd8 rfl rfl (by decide) (by decide) (by decide) (by decide) ?_
      intro v95 T95 L95 X95 hQ95
      obtain ⟨rfl, Nq95, hh95⟩ := hQ95
      have N95 := Fr.app N93 Nq95
      refine Go.push (pc' := 175) rfl ?_
      refine g_iconst X95 hx hby at_175 (pc' := 176) rfl (z := (1 : Int32)) rfl ?_
      have hc176 : (1 : Int) = (1 : Int) := by decide
      refine g_icmpNo X95 hx hby at_176 (pc' := 179) (teq (show (1 : Int32) = (1 : Int32) from Int32.toInt_inj.mp hc176)).2 rfl ?_
      refine g_aload X95 hx hby at_179 (pc' := 181) rfl rfl rfl ?_
      refine Go.callV X95 hx hZ hown (wi hw 84 rfl) (wi hw 85 rfl) (notFace_of_selects (args := #[]) (mvT hZ (wi hw 87 rfl))) (wi hw 87 rfl) (wi hw 86 rfl) (wi hw 3 rfl) (wi hw 88 rfl) (by decide) hh95 (a := b55) (argsL := []) (rest := []) (W := 0) f96 (rm_bound l Z a0 hw b55 (2 : Int32) h93 n0 (Nat.le_trans (Nat.le_trans (Nat.le_trans (Nat.le_trans (Nat.le_trans Z0 E55.1) Kq68.1) Kq69.1) Kq77.1) Kq93.1) Fq4_93) (hb hby at_181) (by rw [hml]; rfl) rfl pd8 rfl rfl (by decide) (by decide) (by decide) (by decide) ?_
      intro v97 T97 L97 X97 hQ97
      obtain ⟨rfl, Nq97, hh97⟩ := hQ97
      have N97 := Fr.app N95 Nq97
      refine Go.push (pc' := 184) rfl ?_
      refine g_iconst X97 hx hby at_184 (pc' := 185) rfl (z := (2 : Int32)) rfl ?_
      have hc185 : (2 : Int) = (2 : Int) := by decide
      refine g_icmpNo X97 hx hby at_185 (pc' := 188) (teq (show (2 : Int32) = (2 : Int32) from Int32.toInt_inj.mp hc185)).2 rfl ?_
      refine g_iconst X97 hx hby at_188 (pc' := 189) rfl (z := (1 : Int32)) rfl ?_
      refine g_goto X97 hx hby at_189 (pc' := 193) (by decide) (by decide) ?_
      refine g_istore X97 hx hby at_193 (pc' := 195) rfl (L' := #[.val (.int p1), .val (.int p2), .val (.int p3), .val (.int p4), .val (.int p5), .val (.int p6), .val (.int (1 : Int32)), .val (.int v51), .val (.int v52), .val (.int v53), .val (.int v54), .val (.int p6), .val (.int p5), .val (.ref b55), .val (.int (1 : Int32)), .val (.int v51), .val (.int v52), .val (.int (-1 : Int32)), .val (.int (-1 : Int32)), .val (.int (1 : Int32)), .unset, .unset]) rfl ?_
      refine g_aload X97 hx hby at_195 (pc' := 197) rfl rfl rfl ?_
      refine g_iconst X97 hx hby at_197 (pc' := 198) rfl (z := (0 : Int32)) rfl ?_
      refine Go.callV X97 hx hZ hown (wi hw 89 rfl) (wi hw 90 rfl) (notFace_of_selects (args := #[]) (mvT hZ (wi hw 92 rfl))) (wi hw 92 rfl) (wi hw 91 rfl) (wi hw 3 rfl) (wi hw 93 rfl) (by decide) hh97 (a := b55) (argsL := [(.int (0 : Int32))]) (rest := []) (W := 0) f96 (rm_source l Z a0 hw b55 (0 : Int32) b1_69 (upI (upI (upI (fun _ => (0 : Int32)) 0 v51) 1 v53) 1 (-1 : Int32)) 0 h93 n0 (Nat.le_trans (Nat.le_trans (Nat.le_trans (Nat.le_trans (Nat.le_trans Z0 E55.1) Kq68.1) Kq69.1) Kq77.1) Kq93.1) Fq0_93 Fq2_93 rfl (by decide)) (hb hby at_198) (by rw [hml]; rfl) rfl pd4 rfl rfl (by decide) (by decide) (by decide) (by decide) ?_
      intro v98 T98 L98 X98 hQ98
      obtain ⟨rfl, Nq98, hh98⟩ := hQ98
      have N98 := Fr.app N97 Nq98
      show Go p.tables e below s _ _ _ (T98.setTop (mkF m 201 #[.val (.int p1), .val (.int p2), .val (.int p3), .val (.int p4), .val (.int p5), .val (.int p6), .val (.int (1 : Int32)), .val (.int v51), .val (.int v52), .val (.int v53), .val (.int v54), .val (.int p6), .val (.int p5), .val (.ref b55), .val (.int (1 : Int32)), .val (.int v51), .val (.int v52), .val (.int (-1 : Int32)), .val (.int (-1 : Int32)), .val (.int (1 : Int32)), .unset, .unset] [(.int v51)]))
      refine g_iload X98 hx hby at_201 (pc' := 203) rfl rfl ?_
      have hc203 : v51.toInt = v51.toInt := rfl
      refine g_icmpNo X98 hx hby at_203 (pc' := 206) (teq (show v51 = v51 from Int32.toInt_inj.mp hc203)).2 rfl ?_
      refine g_aload X98 hx hby at_206 (pc' := 208) rfl rfl rfl ?_
      refine g_iconst X98 hx hby at_208 (pc' := 209) rfl (z := (0 : Int32)) rfl ?_
      refine Go.callV X98 hx hZ hown (wi hw 94 rfl) (wi hw 95 rfl) (notFace_of_selects (args := #[]) (mvT hZ (wi hw 97 rfl))) (wi hw 97 rfl) (wi hw 96 rfl) (wi hw 3 rfl) (wi hw 98 rfl) (by decide) hh98 (a := b55) (argsL := [(.int (0 : Int32))]) (rest := []) (W := 0) f96 (rm_target l Z a0 hw b55 (0 : Int32) b2_69 (upI (upI (upI (fun _ => (0 : Int32)) 0 v52) 1 v54) 1 (-1 : Int32)) 0 h93 n0 (Nat.le_trans (Nat.le_trans (Nat.le_trans (Nat.le_trans (Nat.le_trans Z0 E55.1) Kq68.1) Kq69.1) Kq77.1) Kq93.1) Fq1_93 Fq3_93 rfl (by decide)) (hb hby at_209) (by rw [hml]; rfl) rfl pd4 rfl rfl (by decide) (by decide) (by decide) (by decide) ?_
      intro v99 T99 L99 X99 hQ99
      obtain ⟨rfl, Nq99, hh99⟩ := hQ99
      have N99 := Fr.app N98 Nq99
      show Go p.tables e below s _ _ _ (T99.setTop (mkF m 212 #[.val (.int p1), .val (.int p2), .val (.int p3), .val (.int p4), .val (.int p5), .val (.int p6), .val (.int (1 : Int32)), .val (.int v51), .val (.int v52), .val (.int v53), .val (.int v54), .val (.int p6), .val (.int p5), .val (.ref b55), .val (.int (1 : Int32)), .val (.int v51), .val (.int v52), .val (.int (-1 : Int32)), .val (.int (-1 : Int32)), .val (.int (1 : Int32)), .unset, .unset] [(.int v52)]))
      refine g_iload X99 hx hby at_212 (pc' := 214) rfl rfl ?_
      have hc214 : v52.toInt = v52.toInt := rfl
      refine g_icmpNo X99 hx hby at_214 (pc' := 217) (teq (show v52 = v52 from Int32.toInt_inj.mp hc214)).2 rfl ?_
      refine g_iconst X99 hx hby at_217 (pc' := 218) rfl (z := (1 : Int32)) rfl ?_
      refine g_goto X99 hx hby at_218 (pc' := 222) (by decide) (by decide) ?_
      refine g_istore X99 hx hby at_222 (pc' := 224) rfl (L' := #[.val (.int p1), .val (.int p2), .val (.int p3), .val (.int p4), .val (.int p5), .val (.int p6), .val (.int (1 : Int32)), .val (.int v51), .val (.int v52), .val (.int v53), .val (.int v54), .val (.int p6), .val (.int p5), .val (.ref b55), .val (.int (1 : Int32)), .val (.int v51), .val (.int v52), .val (.int (-1 : Int32)), .val (.int (-1 : Int32)), .val (.int (1 : Int32)), .val (.int (1 : Int32)), .unset]) rfl ?_
      refine g_aload X99 hx hby at_224 (pc' := 226) rfl rfl rfl ?_
      refine g_iconst X99 hx hby at_226 (pc' := 227) rfl (z := (1 : Int32)) rfl ?_
      refine Go.callV X99 hx hZ hown (wi hw 89 rfl) (wi hw 90 rfl) (notFace_of_selects (args := #[]) (mvT hZ (wi hw 92 rfl))) (wi hw 92 rfl) (wi hw 91 rfl) (wi hw 3 rfl) (wi hw 93 rfl) (by decide) hh99 (a := b55) (argsL := [(.int (1 : Int32))]) (rest := []) (W := 0) f96 (rm_source l Z a0 hw b55 (1 : Int32) b1_69 (upI (upI (upI (fun _ => (0 : Int32)) 0 v51) 1 v53) 1 (-1 : Int32)) 1 h93 n0 (Nat.le_trans (Nat.le_trans (Nat.le_trans (Nat.le_trans (Nat.le_trans Z0 E55.1) Kq68.1) Kq69.1) Kq77.1) Kq93.1) Fq0_93 Fq2_93 rfl (by decide)) (hb hby at_227) (by rw [hml]; rfl) rfl pd4 rfl rfl (by decide) (by decide) (by decide) (by decide) ?_
      intro v100 T100 L100 X100 hQ100
      obtain ⟨rfl, Nq100, hh100⟩ := hQ100
      have N100 := Fr.app N99 Nq100
      show Go p.tables e below s _ _ _ (T100.setTop (mkF m 230 #[.val (.int p1), .val (.int p2), .val (.int p3), .val (.int p4), .val (.int p5), .val (.int p6), .val (.int (1 : Int32)), .val (.int v51), .val (.int v52), .val (.int v53), .val (.int v54), .val (.int p6), .val (.int p5), .val (.ref b55), .val (.int (1 : Int32)), .val (.int v51), .val (.int v52), .val (.int (-1 : Int32)), .val (.int (-1 : Int32)), .val (.int (1 : Int32)), .val (.int (1 : Int32)), .unset] [(.int (-1 : Int32))]))
      refine g_iload X100 hx hby at_230 (pc' := 232) rfl rfl ?_
      have hc232 : (-1 : Int) = (-1 : Int) := by decide
      refine g_icmpNo X100 hx hby at_232 (pc' := 235) (teq (show (-1 : Int32) = (-1 : Int32) from Int32.toInt_inj.mp hc232)).2 rfl ?_
      refine g_aload X100 hx hby at_235 (pc' := 237) rfl rfl rfl ?_
      refine g_iconst X100 hx hby at_237 (pc' := 238) rfl (z := (1 : Int32)) rfl ?_
      refine Go.callV X100 hx hZ hown (wi hw 94 rfl) (wi hw 95 rfl) (notFace_of_selects (args := #[]) (mvT hZ (wi hw 97 rfl))) (wi hw 97 rfl) (wi hw 96 rfl) (wi hw 3 rfl) (wi hw 98 rfl) (by decide) hh100 (a := b55) (argsL := [(.int (1 : Int32))]) (rest := []) (W := 0) f96 (rm_target l Z a0 hw b55 (1 : Int32) b2_69 (upI (upI (upI (fun _ => (0 : Int32)) 0 v52) 1 v54) 1 (-1 : Int32)) 1 h93 n0 (Nat.le_trans (Nat.le_trans (Nat.le_trans (Nat.le_trans (Nat.le_trans Z0 E55.1) Kq68.1) Kq69.1) Kq77.1) Kq93.1) Fq1_93 Fq3_93 rfl (by decide)) (hb hby at_238) (by rw [hml]; rfl) rfl pd4 rfl rfl (by decide) (by decide) (by decide) (by decide) ?_
      intro v101 T101 L101 X101 hQ101
      obtain ⟨rfl, Nq101, hh101⟩ := hQ101
      have N101 := Fr.app N100 Nq101
      show Go p.tables e below s _ _ _ (T101.setTop (mkF m 241 #[.val (.int p1), .val (.int p2), .val (.int p3), .val (.int p4), .val (.int p5), .val (.int p6), .val (.int (1 : Int32)), .val (.int v51), .val (.int v52), .val (.int v53), .val (.int v54), .val (.int p6), .val (.int p5), .val (.ref b55), .val (.int (1 : Int32)), .val (.int v51), .val (.int v52), .val (.int (-1 : Int32)), .val (.int (-1 : Int32)), .val (.int (1 : Int32)), .val (.int (1 : Int32)), .unset] [(.int (-1 : Int32))]))
      refine g_iload X101 hx hby at_241 (pc' := 243) rfl rfl ?_
      have hc243 : (-1 : Int) = (-1 : Int) := by decide
      refine g_icmpNo X101 hx hby at_243 (pc' := 246) (teq (show (-1 : Int32) = (-1 : Int32) from Int32.toInt_inj.mp hc243)).2 rfl ?_
      refine g_iconst X101 hx hby at_246 (pc' := 247) rfl (z := (1 : Int32)) rfl ?_
      refine g_goto X101 hx hby at_247 (pc' := 251) (by decide) (by decide) ?_
      refine g_istore X101 hx hby at_251 (pc' := 253) rfl (L' := #[.val (.int p1), .val (.int p2), .val (.int p3), .val (.int p4), .val (.int p5), .val (.int p6), .val (.int (1 : Int32)), .val (.int v51), .val (.int v52), .val (.int v53), .val (.int v54), .val (.int p6), .val (.int p5), .val (.ref b55), .val (.int (1 : Int32)), .val (.int v51), .val (.int v52), .val (.int (-1 : Int32)), .val (.int (-1 : Int32)), .val (.int (1 : Int32)), .val (.int (1 : Int32)), .val (.int (1 : Int32))]) rfl ?_
      refine g_iload X101 hx hby at_253 (pc' := 255) rfl rfl ?_
      have hc255 : ¬ ((1 : Int) = (0 : Int)) := by decide
      refine g_ifNo X101 hx hby at_255 (pc' := 258) (feq (show ¬ ((1 : Int32) = (0 : Int32)) from fun q => hc255 (congrArg Int32.toInt q))).1 rfl ?_
      refine g_iload X101 hx hby at_258 (pc' := 260) rfl rfl ?_
      have hc260 : ¬ ((1 : Int) = (0 : Int)) := by decide
      refine g_ifNo X101 hx hby at_260 (pc' := 263) (feq (show ¬ ((1 : Int32) = (0 : Int32)) from fun q => hc260 (congrArg Int32.toInt q))).1 rfl ?_
      refine g_iload X101 hx hby at_263 (pc' := 265) rfl rfl ?_
      have hc265 : ¬ ((1 : Int) = (0 : Int)) := by decide
      refine g_ifNo X101 hx hby at_265 (pc' := 268) (feq (show ¬ ((1 : Int32) = (0 : Int32)) from fun q => hc265 (congrArg Int32.toInt q))).1 rfl ?_
      refine g_iconst X101 hx hby at_268 (pc' := 269) rfl (z := (1 : Int32)) rfl ?_
      refine g_goto X101 hx hby at_269 (pc' := 273) (by decide) (by decide) ?_
      refine Go.retZ X101 hx hlk hret (by simp) (hb hby at_273) (by decide) (by decide) ?_
      exact ⟨rfl, N101⟩
set_option maxRecDepth 65536 in
set_option maxHeartbeats 40000000 in
theorem comes_1 {Post : Tables → Env → Array Value → State → Outcome → State → Prop} (hpost : ∀ tb e args s v u, (limb_1_1.after args s (.returned v) u = true ∧ limb_1_2.after args s (.returned v) u = true) → FrameEnd s (.returned v) u (Jvm.fieldLocs frame_1_writes args s ++ Jvm.arrayLocs frame_1_arrays args s ++ Jvm.staticLocs frame_1_statics s) 40 192 → Post tb e args s (.returned v) u) :
    ArmFor flags0 classFile x code maxLocals ret World_1 tables_1 room_1 Calls_1 rest_1 Pre_1 Post := by
  intro l hfl _ _ p e ha hc hk s m args below hf hA hF happ hP
  obtain ⟨hcalls, hrest, hpre⟩ := hP
  obtain ⟨-, -, -, hnamed, -, -, -, hat⟩ := (Spec.applies_iff hf).mp happ
  obtain ⟨hg, hn⟩ := and_e (Cond.before_iff.mp (show (Jvm.Cond.and given_1 narrow_1).before args s = true from hpre))
  obtain ⟨g0, r0⟩ := and_e hg
  obtain ⟨g1, r1⟩ := and_e r0
  obtain ⟨g2, r2⟩ := and_e r1
  obtain ⟨g3, r3⟩ := and_e r2
  obtain ⟨g4, r4⟩ := and_e r3
  obtain ⟨g5, g6⟩ := and_e r4
  obtain ⟨w0, w1, w2, w3, w4, w5, rfl⟩ : ∃ w0 w1 w2 w3 w4 w5 : Value, args = #[w0, w1, w2, w3, w4, w5] := by
    have hs : args.size = 6 := by simpa [Cond.value, given_1] using g0
    obtain ⟨L⟩ := args
    match L, hs with
    | [w0, w1, w2, w3, w4, w5], _ => exact ⟨w0, w1, w2, w3, w4, w5, rfl⟩
  have hw := fun d (hd : d ∈ tables_1) => atoms_spec (ws := Jvm.Cond.code x code maxLocals ret :: tables_1) hat d (List.mem_cons_of_mem _ hd)
  have hfit : Fit s := fun {y c} hc i hi => by
    obtain ⟨ha, rfl⟩ := Array.getElem?_eq_some_iff.mp hc
    have q := List.all_eq_true.mp ((Array.all_eq_true_iff_forall_mem.mp hF) _ (Array.getElem_mem ha)) i (List.mem_range.mpr hi)
    simpa [Array.getElem?_eq_getElem hi] using q
  obtain ⟨i0, ei0⟩ := is_v g1
  obtain rfl : w0 = (.int i0) := Option.some.inj ei0
  obtain ⟨i1, ei1⟩ := is_v g2
  obtain rfl : w1 = (.int i1) := Option.some.inj ei1
  obtain ⟨i2, ei2⟩ := is_v g3
  obtain rfl : w2 = (.int i2) := Option.some.inj ei2
  obtain ⟨i3, ei3⟩ := is_v g4
  obtain rfl : w3 = (.int i3) := Option.some.inj ei3
  obtain ⟨i4, ei4⟩ := is_v g5
  obtain rfl : w4 = (.int i4) := Option.some.inj ei4
  obtain ⟨i5, ei5⟩ := is_v g6
  obtain rfl : w5 = (.int i5) := Option.some.inj ei5
  obtain ⟨n, o, h1, h2, h3, _, L, rfl, ⟨rfl, N⟩, hq⟩ := rm0 l s _ hw tables_1 i0 i1 i2 i3 i4 i5 s.heap s.heap.size (Nat.le_refl _)  p e ha hc hk s m _ below hf ((Spec.applies_iff_loose hf).mp happ).1 ⟨rfl, State.Warmed39.refl s, rfl⟩ trivial
  refine ⟨n, _, h1, h2, h3, hpost _ _ _ _ _ _ ⟨Cond.after_iff.mpr rfl, Cond.after_iff.mpr (eq_i res_at (Term.int_eval (1)) rfl)⟩ ⟨hq.1, hq.2.1, (hq.2.2.sift fun y hy => Or.inr (N y hy)).mono (by decide) (by decide)⟩⟩
theorem main_1_1 : Claimed_1_1 := comes_1 fun _ _ _ _ _ _ h hF => ⟨h.1, hF⟩
theorem main_1_2 : Claimed_1_2 := comes_1 fun _ _ _ _ _ _ h hF => ⟨h.2, hF⟩
end Jvm.Pilot.@@N@@
namespace Jvm.Pilot.@@N@@
open Jvm Jvm.ClassFile Sem Op Lib Jvm.Free Jvm.Stand Jvm.Pilot.@@N@@.Jvm.D
/-! MADE BY PROGRAM (witnessworld.py) out of the Statement's table words and the real class files: 17 classes; the members and pool entries that the words name. The judged class is class 1, her method 1. -/
namespace start1
open Jvm.ClassFile
def u (s : String) : CpInfo := .utf8 (stringToUtf16 s)
/-- a pool by its gaps: so many unusable entries, then the entry; so many at the end -/
def gap : Nat → List CpInfo → List CpInfo
  | 0, r => r
  | n + 1, r => .unusable :: gap n r
def poolList (es : List (Nat × CpInfo)) (last : Nat) : List CpInfo := es.foldr (fun e r => gap e.1 (e.2 :: r)) (gap last [])
def pool (es : List (Nat × CpInfo)) (last : Nat) : Array CpInfo := ⟨poolList es last⟩
def fileOf (pool : Array CpInfo) (this : Nat) (attrs : Array Attribute := #[]) (ms : Array MethodInfo := #[]) (fl : Nat := 33) (sup : Nat := 0) (ifs : Array Nat := #[]) (fds : Array FieldInfo := #[]) : ClassFile where
  minorVersion := 0
  majorVersion := 65
  constantPool := pool
  accessFlags := fl
  thisClass := this
  superClass := sup
  interfaces := ifs
  fields := fds
  methods := ms
  attributes := attrs
def plain (name : String) (sup : Option ClassId) : Class where
  name := name
  kind := .ordinary
  loader := none
  accessFlags := 33
  super := sup
  interfaces := #[]
  cf := none
  fields := #[]
  methods := #[]
  instanceTypes := #[]
  staticTypes := #[]
  resolved := #[]
  callSites := []
  init := .initialized
  statics := none
  mirror := none

def pool0 : Array CpInfo := pool [(5, u "<init>"), (0, u "()V"), (1, .class_ 10), (1, u "java/lang/Object")] 113

def k0c0 : Code := { maxStack := 0, maxLocals := 1, code := object_method_1_code, exceptionTable := #[], attributes := #[] }
def k0m0 : Method := { name := "<init>", desc := "()V", sig := { parameters := [], returnType := none }, accessFlags := 1, code := some k0c0 }
/-- java/lang/Object -/
def k0 : Class := { plain "java/lang/Object" none with
  accessFlags := 33
  interfaces := #[]
  cf := some (fileOf pool0 8 #[] #[{ accessFlags := 1, nameIndex := 5, descriptorIndex := 6, attributes := #[] }] 33 0 #[] #[])
  fields := #[]
  methods := #[k0m0]
  instanceTypes := #[]
  staticTypes := #[]
  resolved := Array.replicate 124 none
  statics := none }

def pool1 : Array CpInfo := pool [(2, .class_ 4), (1, u "java/lang/Object"), (0, u "<init>"), (0, u "()V"), (0, .integer 2147483647), (0, .class_ 9), (0, u "com/example/edgewise/edgewise/EdgeSlots"), (0, .methodref 8 11), (0, .nameAndType 5 12), (0, u "(Z)V"), (0, .methodref 8 14), (0, .nameAndType 15 16), (0, u "add"), (0, u "(IIDI)I"), (0, .double 4611686018427387904), (1, .methodref 8 20), (0, .nameAndType 21 22), (0, u "remove"), (0, u "(I)V"), (0, .methodref 8 24), (0, .nameAndType 25 26), (0, u "count"), (0, u "()I"), (0, .methodref 8 28), (0, .nameAndType 29 26), (0, u "bound"), (0, .methodref 8 31), (0, .nameAndType 32 33), (0, u "source"), (0, u "(I)I"), (0, .methodref 8 35), (0, .nameAndType 36 33), (0, u "target"), (0, .class_ 38), (0, u "com/example/edgewise/edgewise/EdgeSlotsRemovePinLaw"), (2, u "law"), (0, u "(IIIIII)Z")] 3

def k1m0 : Method := { name := "<init>", desc := "()V", sig := { parameters := [], returnType := none }, accessFlags := 1, code := none }
def k1c1 : Code := { maxStack := 6, maxLocals := 22, code := code, exceptionTable := #[], attributes := #[] }
def k1m1 : Method := { name := "law", desc := "(IIIIII)Z", sig := { parameters := [.int, .int, .int, .int, .int, .int], returnType := some .boolean }, accessFlags := 9, code := some k1c1 }
/-- com/example/edgewise/edgewise/EdgeSlotsRemovePinLaw -/
def k1 : Class := { plain "com/example/edgewise/edgewise/EdgeSlotsRemovePinLaw" (some 0) with
  accessFlags := 49
  interfaces := #[]
  cf := some (fileOf pool1 37 #[] #[{ accessFlags := 1, nameIndex := 5, descriptorIndex := 6, attributes := #[] }, { accessFlags := 9, nameIndex := 41, descriptorIndex := 42, attributes := #[] }] 49 2 #[] #[])
  fields := #[]
  methods := #[k1m0, k1m1]
  instanceTypes := #[]
  staticTypes := #[]
  resolved := Array.replicate 46 none
  statics := none }

def pool2 : Array CpInfo := pool [(1, .methodref 2 3), (0, .class_ 4), (0, .nameAndType 5 6), (0, u "java/lang/Object"), (0, u "<init>"), (0, u "()V"), (0, .fieldref 8 9), (0, .class_ 10), (0, .nameAndType 11 12), (0, u "com/example/edgewise/edgewise/EdgeSlots"), (0, u "sources"), (0, u "[I"), (0, .fieldref 8 14), (0, .nameAndType 15 12), (0, u "targets"), (0, .fieldref 8 17), (0, .nameAndType 18 12), (0, u "sourcePositions"), (0, .fieldref 8 20), (0, .nameAndType 21 12), (0, u "targetPositions"), (0, .fieldref 8 23), (0, .nameAndType 24 25), (0, u "weights"), (0, u "[D"), (0, .fieldref 8 27), (0, .nameAndType 28 12), (0, u "keys"), (0, .fieldref 8 30), (0, .nameAndType 31 32), (0, u "keptNumbers"), (0, u "[J"), (0, .fieldref 8 34), (0, .nameAndType 35 36), (0, u "keyed"), (0, u "Z"), (0, .fieldref 8 38), (0, .nameAndType 39 40), (0, u "bound"), (0, u "I"), (0, .methodref 42 43), (0, .class_ 44), (0, .nameAndType 45 46), (0, u "com/example/edgewise/edgewise/Capacity"), (0, u "next"), (0, u "(I)I"), (0, .methodref 8 48), (0, .nameAndType 49 50), (0, u "resize"), (0, u "(I)V"), (0, .fieldref 8 52), (0, .nameAndType 53 40), (0, u "count"), (0, .fieldref 8 55), (0, .nameAndType 56 57), (0, u "nextNumber"), (0, u "J"), (1, .class_ 61), (1, u "java/util/Arrays"), (25, .methodref 59 88), (0, .nameAndType 89 90), (0, u "copyOf"), (0, u "([II)[I"), (0, .methodref 59 92), (0, .nameAndType 89 93), (0, u "([DI)[D"), (0, u "REMOVED"), (2, u "NO_ENTRY"), (0, u "(Z)V"), (2, u "add"), (0, u "(IIDI)I"), (1, u "remove"), (0, u "()I"), (4, u "source"), (0, u "target")] 16

def k2c0 : Code := { maxStack := 2, maxLocals := 2, code := prog_12_method_1_code, exceptionTable := #[], attributes := #[] }
def k2m0 : Method := { name := "<init>", desc := "(Z)V", sig := { parameters := [.boolean], returnType := none }, accessFlags := 0, code := some k2c0 }
def k2c1 : Code := { maxStack := 5, maxLocals := 7, code := prog_12_method_2_code, exceptionTable := #[], attributes := #[] }
def k2m1 : Method := { name := "add", desc := "(IIDI)I", sig := { parameters := [.int, .int, .double, .int], returnType := some .int }, accessFlags := 0, code := some k2c1 }
def k2c2 : Code := { maxStack := 3, maxLocals := 2, code := prog_12_method_3_code, exceptionTable := #[], attributes := #[] }
def k2m2 : Method := { name := "remove", desc := "(I)V", sig := { parameters := [.int], returnType := none }, accessFlags := 0, code := some k2c2 }
def k2c3 : Code := { maxStack := 1, maxLocals := 1, code := prog_12_method_4_code, exceptionTable := #[], attributes := #[] }
def k2m3 : Method := { name := "bound", desc := "()I", sig := { parameters := [], returnType := some .int }, accessFlags := 0, code := some k2c3 }
def k2c4 : Code := { maxStack := 1, maxLocals := 1, code := prog_12_method_5_code, exceptionTable := #[], attributes := #[] }
def k2m4 : Method := { name := "count", desc := "()I", sig := { parameters := [], returnType := some .int }, accessFlags := 0, code := some k2c4 }
def k2c5 : Code := { maxStack := 2, maxLocals := 2, code := prog_12_method_9_code, exceptionTable := #[], attributes := #[] }
def k2m5 : Method := { name := "source", desc := "(I)I", sig := { parameters := [.int], returnType := some .int }, accessFlags := 0, code := some k2c5 }
def k2c6 : Code := { maxStack := 2, maxLocals := 2, code := prog_12_method_10_code, exceptionTable := #[], attributes := #[] }
def k2m6 : Method := { name := "target", desc := "(I)I", sig := { parameters := [.int], returnType := some .int }, accessFlags := 0, code := some k2c6 }
def k2c7 : Code := { maxStack := 3, maxLocals := 2, code := prog_12_method_22_code, exceptionTable := #[], attributes := #[] }
def k2m7 : Method := { name := "resize", desc := "(I)V", sig := { parameters := [.int], returnType := none }, accessFlags := 2, code := some k2c7 }
/-- com/example/edgewise/edgewise/EdgeSlots -/
def k2 : Class := { plain "com/example/edgewise/edgewise/EdgeSlots" (some 0) with
  accessFlags := 48
  interfaces := #[]
  cf := some (fileOf pool2 8 #[] #[{ accessFlags := 0, nameIndex := 5, descriptorIndex := 98, attributes := #[] }, { accessFlags := 0, nameIndex := 101, descriptorIndex := 102, attributes := #[] }, { accessFlags := 0, nameIndex := 104, descriptorIndex := 50, attributes := #[] }, { accessFlags := 0, nameIndex := 39, descriptorIndex := 105, attributes := #[] }, { accessFlags := 0, nameIndex := 53, descriptorIndex := 105, attributes := #[] }, { accessFlags := 0, nameIndex := 110, descriptorIndex := 46, attributes := #[] }, { accessFlags := 0, nameIndex := 111, descriptorIndex := 46, attributes := #[] }, { accessFlags := 2, nameIndex := 49, descriptorIndex := 50, attributes := #[] }] 48 2 #[] #[{ accessFlags := 24, nameIndex := 94, descriptorIndex := 40, attributes := #[] }, { accessFlags := 24, nameIndex := 97, descriptorIndex := 40, attributes := #[] }, { accessFlags := 18, nameIndex := 35, descriptorIndex := 36, attributes := #[] }, { accessFlags := 2, nameIndex := 11, descriptorIndex := 12, attributes := #[] }, { accessFlags := 2, nameIndex := 15, descriptorIndex := 12, attributes := #[] }, { accessFlags := 2, nameIndex := 18, descriptorIndex := 12, attributes := #[] }, { accessFlags := 2, nameIndex := 21, descriptorIndex := 12, attributes := #[] }, { accessFlags := 2, nameIndex := 24, descriptorIndex := 25, attributes := #[] }, { accessFlags := 2, nameIndex := 28, descriptorIndex := 12, attributes := #[] }, { accessFlags := 2, nameIndex := 39, descriptorIndex := 40, attributes := #[] }, { accessFlags := 2, nameIndex := 53, descriptorIndex := 40, attributes := #[] }, { accessFlags := 2, nameIndex := 56, descriptorIndex := 57, attributes := #[] }, { accessFlags := 2, nameIndex := 31, descriptorIndex := 32, attributes := #[] }])
  fields := #[{ name := "REMOVED", type := .int, accessFlags := 24, slot := 0, constantValue := 0 }, { name := "NO_ENTRY", type := .int, accessFlags := 24, slot := 1, constantValue := 0 }, { name := "keyed", type := .boolean, accessFlags := 18, slot := 0, constantValue := 0 }, { name := "sources", type := (.array .int), accessFlags := 2, slot := 1, constantValue := 0 }, { name := "targets", type := (.array .int), accessFlags := 2, slot := 2, constantValue := 0 }, { name := "sourcePositions", type := (.array .int), accessFlags := 2, slot := 3, constantValue := 0 }, { name := "targetPositions", type := (.array .int), accessFlags := 2, slot := 4, constantValue := 0 }, { name := "weights", type := (.array .double), accessFlags := 2, slot := 5, constantValue := 0 }, { name := "keys", type := (.array .int), accessFlags := 2, slot := 6, constantValue := 0 }, { name := "bound", type := .int, accessFlags := 2, slot := 7, constantValue := 0 }, { name := "count", type := .int, accessFlags := 2, slot := 8, constantValue := 0 }, { name := "nextNumber", type := .long, accessFlags := 2, slot := 9, constantValue := 0 }, { name := "keptNumbers", type := (.array .long), accessFlags := 2, slot := 10, constantValue := 0 }]
  methods := #[k2m0, k2m1, k2m2, k2m3, k2m4, k2m5, k2m6, k2m7]
  instanceTypes := #[.boolean, (.array .int), (.array .int), (.array .int), (.array .int), (.array .double), (.array .int), .int, .int, .long, (.array .long)]
  staticTypes := #[.int, .int]
  resolved := Array.replicate 128 none
  statics := none }

def pool3 : Array CpInfo := pool [(4, .class_ 6), (1, u "java/lang/Object"), (0, u "<init>"), (0, u "()V"), (0, .class_ 10), (0, u "com/example/edgewise/edgewise/Capacity"), (0, .integer 2147483639), (7, .long 2147483639), (1, .long 4), (1, .long 2), (1, .methodref 26 27), (0, .class_ 28), (0, .nameAndType 29 30), (0, u "java/lang/Math"), (0, u "max"), (0, u "(JJ)J"), (0, .methodref 26 32), (0, .nameAndType 33 30), (0, u "min"), (0, u "MAX"), (0, u "I"), (1, u "MIN"), (3, u "next"), (0, u "(I)I")] 5

def k3m0 : Method := { name := "<init>", desc := "()V", sig := { parameters := [], returnType := none }, accessFlags := 2, code := none }
def k3c1 : Code := { maxStack := 8, maxLocals := 1, code := prog_6_method_2_code, exceptionTable := #[], attributes := #[] }
def k3m1 : Method := { name := "next", desc := "(I)I", sig := { parameters := [.int], returnType := some .int }, accessFlags := 8, code := some k3c1 }
/-- com/example/edgewise/edgewise/Capacity -/
def k3 : Class := { plain "com/example/edgewise/edgewise/Capacity" (some 0) with
  accessFlags := 48
  interfaces := #[]
  cf := some (fileOf pool3 9 #[] #[{ accessFlags := 2, nameIndex := 7, descriptorIndex := 8, attributes := #[] }, { accessFlags := 8, nameIndex := 41, descriptorIndex := 42, attributes := #[] }] 48 4 #[] #[{ accessFlags := 24, nameIndex := 34, descriptorIndex := 35, attributes := #[] }, { accessFlags := 26, nameIndex := 37, descriptorIndex := 35, attributes := #[] }])
  fields := #[{ name := "MAX", type := .int, accessFlags := 24, slot := 0, constantValue := 0 }, { name := "MIN", type := .int, accessFlags := 26, slot := 1, constantValue := 0 }]
  methods := #[k3m0, k3m1]
  instanceTypes := #[]
  staticTypes := #[.int, .int]
  resolved := Array.replicate 48 none
  statics := none }

def pool4 : Array CpInfo := pool [(1, .class_ 2), (0, u "java/lang/Math"), (1, .class_ 6), (1, u "java/lang/Object"), (0, u "<init>"), (0, u "()V"), (89, .class_ 100), (1, u "java/lang/Math$RandomNumberGeneratorHolder"), (20, u "(JJ)J"), (50, u "negativeZeroFloatBits"), (0, u "J"), (2, u "negativeZeroDoubleBits"), (21, u "max"), (2, u "min"), (43, u "$assertionsDisabled"), (0, u "Z"), (88, u "(II)I"), (2, u "twoToTheDoubleScaleDown"), (0, u "D"), (4, u "twoToTheDoubleScaleUp"), (9, u "E"), (3, u "PI"), (2, u "TAU"), (2, u "DEGREES_TO_RADIANS"), (0, u "RADIANS_TO_DEGREES")] 94

def k4m0 : Method := { name := "<init>", desc := "()V", sig := { parameters := [], returnType := none }, accessFlags := 2, code := none }
def k4c1 : Code := { maxStack := 4, maxLocals := 4, code := jdk_29_method_66_code, exceptionTable := #[], attributes := #[] }
def k4m1 : Method := { name := "max", desc := "(JJ)J", sig := { parameters := [.long, .long], returnType := some .long }, accessFlags := 9, code := some k4c1 }
def k4c2 : Code := { maxStack := 2, maxLocals := 2, code := jdk_29_method_69_code, exceptionTable := #[], attributes := #[] }
def k4m2 : Method := { name := "min", desc := "(II)I", sig := { parameters := [.int, .int], returnType := some .int }, accessFlags := 9, code := some k4c2 }
def k4c3 : Code := { maxStack := 4, maxLocals := 4, code := jdk_29_method_70_code, exceptionTable := #[], attributes := #[] }
def k4m3 : Method := { name := "min", desc := "(JJ)J", sig := { parameters := [.long, .long], returnType := some .long }, accessFlags := 9, code := some k4c3 }
/-- java/lang/Math -/
def k4 : Class := { plain "java/lang/Math" (some 0) with
  accessFlags := 49
  interfaces := #[]
  cf := some (fileOf pool4 1 #[.nestMembers #[98]] #[{ accessFlags := 2, nameIndex := 7, descriptorIndex := 8, attributes := #[] }, { accessFlags := 9, nameIndex := 198, descriptorIndex := 121, attributes := #[] }, { accessFlags := 9, nameIndex := 201, descriptorIndex := 335, attributes := #[] }, { accessFlags := 9, nameIndex := 201, descriptorIndex := 121, attributes := #[] }] 49 4 #[] #[{ accessFlags := 25, nameIndex := 354, descriptorIndex := 339, attributes := #[] }, { accessFlags := 25, nameIndex := 358, descriptorIndex := 339, attributes := #[] }, { accessFlags := 25, nameIndex := 361, descriptorIndex := 339, attributes := #[] }, { accessFlags := 26, nameIndex := 364, descriptorIndex := 339, attributes := #[] }, { accessFlags := 26, nameIndex := 365, descriptorIndex := 339, attributes := #[] }, { accessFlags := 26, nameIndex := 172, descriptorIndex := 173, attributes := #[] }, { accessFlags := 26, nameIndex := 176, descriptorIndex := 173, attributes := #[] }, { accessFlags := 8, nameIndex := 344, descriptorIndex := 339, attributes := #[] }, { accessFlags := 8, nameIndex := 338, descriptorIndex := 339, attributes := #[] }, { accessFlags := 4120, nameIndex := 245, descriptorIndex := 246, attributes := #[] }])
  fields := #[{ name := "E", type := .double, accessFlags := 25, slot := 0, constantValue := 0 }, { name := "PI", type := .double, accessFlags := 25, slot := 1, constantValue := 0 }, { name := "TAU", type := .double, accessFlags := 25, slot := 2, constantValue := 0 }, { name := "DEGREES_TO_RADIANS", type := .double, accessFlags := 26, slot := 3, constantValue := 0 }, { name := "RADIANS_TO_DEGREES", type := .double, accessFlags := 26, slot := 4, constantValue := 0 }, { name := "negativeZeroFloatBits", type := .long, accessFlags := 26, slot := 5, constantValue := 0 }, { name := "negativeZeroDoubleBits", type := .long, accessFlags := 26, slot := 6, constantValue := 0 }, { name := "twoToTheDoubleScaleUp", type := .double, accessFlags := 8, slot := 7, constantValue := 0 }, { name := "twoToTheDoubleScaleDown", type := .double, accessFlags := 8, slot := 8, constantValue := 0 }, { name := "$assertionsDisabled", type := .boolean, accessFlags := 4120, slot := 9, constantValue := 0 }]
  methods := #[k4m0, k4m1, k4m2, k4m3]
  instanceTypes := #[]
  staticTypes := #[.double, .double, .double, .double, .double, .long, .long, .double, .double, .boolean]
  resolved := Array.replicate 460 none
  statics := none }

def pool5 : Array CpInfo := pool [(2, .class_ 4), (1, u "java/lang/Object"), (0, u "<init>"), (0, u "()V"), (7, .class_ 16), (1, u "java/util/Arrays"), (57, .class_ 76), (1, u "java/util/Arrays$NaturalOrder"), (36, .class_ 115), (1, u "java/util/Arrays$LegacyMergeSort"), (1, u "Z"), (32, .methodref 151 152), (0, .class_ 153), (0, .nameAndType 154 155), (0, u "java/lang/System"), (0, u "arraycopy"), (0, u "(Ljava/lang/Object;ILjava/lang/Object;II)V"), (146, u "copyOf"), (1, .methodref 305 306), (0, .class_ 307), (0, .nameAndType 308 309), (0, u "java/lang/Math"), (0, u "min"), (0, u "(II)I"), (65, .class_ 376), (0, u "java/util/Arrays$ArrayList"), (68, u "$assertionsDisabled"), (269, u "MIN_ARRAY_SORT_GRAN"), (0, u "I"), (2, u "INSERTIONSORT_THRESHOLD"), (151, u "([II)[I"), (3, u "([DI)[D"), (99, .class_ 976), (0, u "java/util/Arrays$ArrayItr")] 52

def k5m0 : Method := { name := "<init>", desc := "()V", sig := { parameters := [], returnType := none }, accessFlags := 2, code := none }
def k5c1 : Code := { maxStack := 6, maxLocals := 3, code := jdk_65_method_123_code, exceptionTable := #[], attributes := #[] }
def k5m1 : Method := { name := "copyOf", desc := "([II)[I", sig := { parameters := [(.array .int), .int], returnType := some (.array .int) }, accessFlags := 9, code := some k5c1 }
def k5c2 : Code := { maxStack := 6, maxLocals := 3, code := jdk_65_method_127_code, exceptionTable := #[], attributes := #[] }
def k5m2 : Method := { name := "copyOf", desc := "([DI)[D", sig := { parameters := [(.array .double), .int], returnType := some (.array .double) }, accessFlags := 9, code := some k5c2 }
/-- java/util/Arrays -/
def k5 : Class := { plain "java/util/Arrays" (some 0) with
  accessFlags := 49
  interfaces := #[]
  cf := some (fileOf pool5 14 #[.nestMembers #[975, 375, 113, 74]] #[{ accessFlags := 2, nameIndex := 5, descriptorIndex := 6, attributes := #[] }, { accessFlags := 9, nameIndex := 302, descriptorIndex := 871, attributes := #[] }, { accessFlags := 9, nameIndex := 302, descriptorIndex := 875, attributes := #[] }] 49 2 #[] #[{ accessFlags := 26, nameIndex := 715, descriptorIndex := 716, attributes := #[] }, { accessFlags := 26, nameIndex := 719, descriptorIndex := 716, attributes := #[] }, { accessFlags := 4120, nameIndex := 445, descriptorIndex := 117, attributes := #[] }])
  fields := #[{ name := "MIN_ARRAY_SORT_GRAN", type := .int, accessFlags := 26, slot := 0, constantValue := 0 }, { name := "INSERTIONSORT_THRESHOLD", type := .int, accessFlags := 26, slot := 1, constantValue := 0 }, { name := "$assertionsDisabled", type := .boolean, accessFlags := 4120, slot := 2, constantValue := 0 }]
  methods := #[k5m0, k5m1, k5m2]
  instanceTypes := #[]
  staticTypes := #[.int, .int, .boolean]
  resolved := Array.replicate 1029 none
  statics := none }

def pool6 : Array CpInfo := pool [(2, .class_ 4), (1, u "java/lang/Object"), (0, u "<init>"), (0, u "()V"), (1, .class_ 10), (1, u "java/lang/System"), (0, u "allowSecurityManager"), (0, u "I"), (16, u "cons"), (0, u "Ljava/io/Console;"), (77, .class_ 110), (1, u "java/lang/System$CallersHolder"), (43, u "initialErrStream"), (0, u "Ljava/io/PrintStream;"), (19, u "security"), (0, u "Ljava/lang/SecurityManager;"), (31, .class_ 209), (0, u "java/lang/System$1"), (7, u "props"), (0, u "Ljava/util/Properties;"), (2, u "lineSeparator"), (0, u "Ljava/lang/String;"), (96, .class_ 321), (1, u "java/lang/System$LoggerFinder"), (5, .class_ 328), (0, u "java/lang/System$Logger"), (67, u "err"), (2, u "out"), (91, u "notSupportedJnuEncoding"), (15, u "in"), (17, u "initialIn"), (0, u "Ljava/io/InputStream;"), (35, u "bootLayer"), (0, u "Ljava/lang/ModuleLayer;"), (99, .class_ 664), (0, u "java/lang/System$2"), (9, u "NEVER"), (2, u "MAYBE"), (49, u "arraycopy"), (0, u "(Ljava/lang/Object;ILjava/lang/Object;II)V"), (72, .class_ 802), (0, u "java/lang/System$Logger$Level")] 31

def k6m0 : Method := { name := "<init>", desc := "()V", sig := { parameters := [], returnType := none }, accessFlags := 2, code := none }
def k6m1 : Method := { name := "arraycopy", desc := "(Ljava/lang/Object;ILjava/lang/Object;II)V", sig := { parameters := [(.object "java/lang/Object"), .int, (.object "java/lang/Object"), .int, .int], returnType := none }, accessFlags := 265, code := none }
/-- java/lang/System -/
def k6 : Class := { plain "java/lang/System" (some 0) with
  accessFlags := 49
  interfaces := #[]
  cf := some (fileOf pool6 8 #[.nestMembers #[319, 327, 801, 108, 663, 208]] #[{ accessFlags := 2, nameIndex := 5, descriptorIndex := 6, attributes := #[] }, { accessFlags := 265, nameIndex := 727, descriptorIndex := 728, attributes := #[] }] 49 2 #[] #[{ accessFlags := 25, nameIndex := 507, descriptorIndex := 526, attributes := #[] }, { accessFlags := 25, nameIndex := 399, descriptorIndex := 155, attributes := #[] }, { accessFlags := 25, nameIndex := 396, descriptorIndex := 155, attributes := #[] }, { accessFlags := 10, nameIndex := 525, descriptorIndex := 526, attributes := #[] }, { accessFlags := 26, nameIndex := 674, descriptorIndex := 12, attributes := #[] }, { accessFlags := 26, nameIndex := 677, descriptorIndex := 12, attributes := #[] }, { accessFlags := 10, nameIndex := 11, descriptorIndex := 12, attributes := #[] }, { accessFlags := 74, nameIndex := 175, descriptorIndex := 176, attributes := #[] }, { accessFlags := 10, nameIndex := 491, descriptorIndex := 222, attributes := #[] }, { accessFlags := 74, nameIndex := 29, descriptorIndex := 30, attributes := #[] }, { accessFlags := 74, nameIndex := 154, descriptorIndex := 155, attributes := #[] }, { accessFlags := 10, nameIndex := 217, descriptorIndex := 218, attributes := #[] }, { accessFlags := 10, nameIndex := 221, descriptorIndex := 222, attributes := #[] }, { accessFlags := 8, nameIndex := 562, descriptorIndex := 563, attributes := #[] }])
  fields := #[{ name := "in", type := (.object "java/io/InputStream"), accessFlags := 25, slot := 0, constantValue := 0 }, { name := "out", type := (.object "java/io/PrintStream"), accessFlags := 25, slot := 1, constantValue := 0 }, { name := "err", type := (.object "java/io/PrintStream"), accessFlags := 25, slot := 2, constantValue := 0 }, { name := "initialIn", type := (.object "java/io/InputStream"), accessFlags := 10, slot := 3, constantValue := 0 }, { name := "NEVER", type := .int, accessFlags := 26, slot := 4, constantValue := 0 }, { name := "MAYBE", type := .int, accessFlags := 26, slot := 5, constantValue := 0 }, { name := "allowSecurityManager", type := .int, accessFlags := 10, slot := 6, constantValue := 0 }, { name := "security", type := (.object "java/lang/SecurityManager"), accessFlags := 74, slot := 7, constantValue := 0 }, { name := "notSupportedJnuEncoding", type := (.object "java/lang/String"), accessFlags := 10, slot := 8, constantValue := 0 }, { name := "cons", type := (.object "java/io/Console"), accessFlags := 74, slot := 9, constantValue := 0 }, { name := "initialErrStream", type := (.object "java/io/PrintStream"), accessFlags := 74, slot := 10, constantValue := 0 }, { name := "props", type := (.object "java/util/Properties"), accessFlags := 10, slot := 11, constantValue := 0 }, { name := "lineSeparator", type := (.object "java/lang/String"), accessFlags := 10, slot := 12, constantValue := 0 }, { name := "bootLayer", type := (.object "java/lang/ModuleLayer"), accessFlags := 8, slot := 13, constantValue := 0 }]
  methods := #[k6m0, k6m1]
  instanceTypes := #[]
  staticTypes := #[(.object "java/io/InputStream"), (.object "java/io/PrintStream"), (.object "java/io/PrintStream"), (.object "java/io/InputStream"), .int, .int, .int, (.object "java/lang/SecurityManager"), (.object "java/lang/String"), (.object "java/io/Console"), (.object "java/io/PrintStream"), (.object "java/util/Properties"), (.object "java/lang/String"), (.object "java/lang/ModuleLayer")]
  resolved := Array.replicate 834 none
  statics := none }

def pool7 : Array CpInfo := pool [(1, u "java/lang/Cloneable"), (0, .class_ 1), (0, u "java/lang/Object"), (0, .class_ 3)] 3

/-- java/lang/Cloneable -/
def k7 : Class := { plain "java/lang/Cloneable" (some 0) with
  accessFlags := 1537
  interfaces := #[]
  cf := some (fileOf pool7 2 #[] #[] 1537 4 #[] #[])
  fields := #[]
  methods := #[]
  instanceTypes := #[]
  staticTypes := #[]
  resolved := Array.replicate 8 none
  statics := none }

def pool8 : Array CpInfo := pool [(1, u "java/io/Serializable"), (0, .class_ 1), (0, u "java/lang/Object"), (0, .class_ 3)] 3

/-- java/io/Serializable -/
def k8 : Class := { plain "java/io/Serializable" (some 0) with
  accessFlags := 1537
  interfaces := #[]
  cf := some (fileOf pool8 2 #[] #[] 1537 4 #[] #[])
  fields := #[]
  methods := #[]
  instanceTypes := #[]
  staticTypes := #[]
  resolved := Array.replicate 8 none
  statics := none }

/-- the primitive byte -/
def k9 : Class := { plain "byte" none with kind := .primitive 'B', accessFlags := 0x411 }
/-- [B -/
def k10 : Class := { plain "[B" (some 0) with kind := .array 9 .byte, interfaces := #[7, 8], accessFlags := 1041 }

/-- the primitive double -/
def k11 : Class := { plain "double" none with kind := .primitive 'D', accessFlags := 0x411 }
/-- [D -/
def k12 : Class := { plain "[D" (some 0) with kind := .array 11 .double, interfaces := #[7, 8], accessFlags := 1041 }

/-- the primitive int -/
def k13 : Class := { plain "int" none with kind := .primitive 'I', accessFlags := 0x411 }
/-- [I -/
def k14 : Class := { plain "[I" (some 0) with kind := .array 13 .int, interfaces := #[7, 8], accessFlags := 1041 }

/-- the primitive long -/
def k15 : Class := { plain "long" none with kind := .primitive 'J', accessFlags := 0x411 }
/-- [J -/
def k16 : Class := { plain "[J" (some 0) with kind := .array 15 .long, interfaces := #[7, 8], accessFlags := 1041 }

def heap : Heap := #[]
def classes : Array Class := #[k0, k1, k2, k3, k4, k5, k6, k7, k8, k9, k10, k11, k12, k13, k14, k15, k16]
def interned : List (Array UInt16 × Addr) := []
def slotsUsed : Nat := 0
def theMethod : MethodId := ⟨1, 1⟩
def args0 : Array Value := #[.int 5, .int 7, .int 9, .int 3, .int 1, .int 1]
def aboutOver (below : List Frame) : State where
  vm := { classes := classes, interned := interned.toArray }
  heap := heap
  slotsUsed := slotsUsed
  threads := #[{ frames := .invoking theMethod args0 :: below }]
def below0 : List Frame := [.native { method := ⟨0, 0⟩, args := #[] }]
def about1 : State := aboutOver below0
def p0 : Program := .bare "" "" ""
def e0 : Env := launch0.env 0 0 0
theorem w_frames : about1.frames = Frame.invoking theMethod args0 :: below0 := rfl
set_option maxRecDepth 65536 in
theorem w_args : argsFit about1.vm theMethod args0 = true := by decide +kernel
set_option maxRecDepth 65536 in
theorem w_heap : heapFits about1 = true := by decide +kernel
set_option maxRecDepth 65536 in
theorem w_runnable : about1.curStatus? = some .runnable := by decide +kernel
set_option maxRecDepth 65536 in
theorem w_alone : about1.alone = true := by decide +kernel
set_option maxRecDepth 65536 in
theorem w_named : about1.methodNamed? x = some theMethod := by decide +kernel
set_option maxRecDepth 65536 in
theorem w_hears : about1.hears theMethod below0 = true := by decide +kernel
set_option maxRecDepth 65536 in
theorem w_ripe : about1.ripe theMethod args0 below0 = true := by decide +kernel
theorem w_running : about1.status = .running := rfl
set_option maxRecDepth 65536 in
theorem w_room : about1.hasRoom e0.platform room_1 = true :=
  launch0.hasRoom_least _ room_1 (by decide +kernel) (by decide +kernel) (by decide +kernel) (by decide +kernel) (by decide +kernel) (by decide +kernel)
theorem allAtoms_all (ts : List Jvm.Cond) (a : Array Jvm.Value) (st : Jvm.State) : (allAtoms ts).before a st = ts.all (fun c => c.before a st) := by
  induction ts with
  | nil => rfl
  | cons c t ih =>
    show (Jvm.Cond.and c (allAtoms t)).before a st = _
    rw [Jvm.Cond.before_and, ih, List.all_cons]
def words1 : List Jvm.Cond := Jvm.Cond.code x code maxLocals ret :: tables_1
/-- a 'code' word, met by the world's own term for the bytes: nothing is compared byte by byte -/
theorem code_word {y : MethodName} {bytes : ByteArray} {mx : Nat} {rt : Option FieldType} {a : Array Value} {s : State} {m : MethodId} {meth : Method} {c : Code} (h1 : s.methodNamed? y = some m) (h2 : s.vm.method? m = some meth) (h3 : meth.code = some c) (h4 : c.code = bytes)
    (h5 : (c.maxLocals == mx && c.exceptionTable.isEmpty && decide (c.maxStack ≤ mostOperands) && decide (meth.sig.returnType = rt) && !meth.locks && decide (parseMethodDescriptor y.desc = some meth.sig)) = true) : (Jvm.Cond.code y bytes mx rt).before a s = true := by
  simp only [Bool.and_eq_true, beq_iff_eq, Bool.not_eq_true', decide_eq_true_eq] at h5
  obtain ⟨⟨⟨⟨⟨g1, g2⟩, g3⟩, g4⟩, g5⟩, g6⟩ := h5
  simp [Cond.before, Cond.holds, Cond.value, h1, h2, h3, h4, g1, g2, g3, g4, g5, g6]
def isCode : Jvm.Cond → Bool
  | .code _ _ _ _ => true
  | _ => false
theorem all_split {L : List Jvm.Cond} {P : Jvm.Cond → Bool} (h1 : L.all (fun c => isCode c || P c) = true) (h2 : ∀ c ∈ L.filter isCode, P c = true) : L.all P = true := by
  refine List.all_eq_true.mpr fun c hc => ?_
  have h := List.all_eq_true.mp h1 c hc
  rcases Bool.eq_false_or_eq_true (isCode c) with hi | hi
  · exact h2 c (List.mem_filter.mpr ⟨hc, hi⟩)
  · simpa [hi] using h
set_option maxRecDepth 65536 in
theorem w_c0 : (Jvm.Cond.code x code maxLocals ret).before args0 about1 = true := code_word (m := ⟨1, 1⟩) (meth := k1m1) (c := k1c1) (by decide +kernel) rfl rfl rfl (by decide +kernel)
set_option maxRecDepth 65536 in
theorem w_c1 : (Jvm.Cond.code ({ cls := "com/example/edgewise/edgewise/EdgeSlots", name := "<init>", desc := "(Z)V" } : Jvm.MethodName) prog_12_method_1_code (2 : Nat) (Option.none : Option Jvm.ClassFile.FieldType)).before args0 about1 = true := code_word (m := ⟨2, 0⟩) (meth := k2m0) (c := k2c0) (by decide +kernel) rfl rfl rfl (by decide +kernel)
set_option maxRecDepth 65536 in
theorem w_c2 : (Jvm.Cond.code ({ cls := "java/lang/Object", name := "<init>", desc := "()V" } : Jvm.MethodName) object_method_1_code (1 : Nat) (Option.none : Option Jvm.ClassFile.FieldType)).before args0 about1 = true := code_word (m := ⟨0, 0⟩) (meth := k0m0) (c := k0c0) (by decide +kernel) rfl rfl rfl (by decide +kernel)
set_option maxRecDepth 65536 in
theorem w_c3 : (Jvm.Cond.code ({ cls := "com/example/edgewise/edgewise/EdgeSlots", name := "add", desc := "(IIDI)I" } : Jvm.MethodName) prog_12_method_2_code (7 : Nat) (Option.some Jvm.ClassFile.FieldType.int)).before args0 about1 = true := code_word (m := ⟨2, 1⟩) (meth := k2m1) (c := k2c1) (by decide +kernel) rfl rfl rfl (by decide +kernel)
set_option maxRecDepth 65536 in
theorem w_c4 : (Jvm.Cond.code ({ cls := "com/example/edgewise/edgewise/Capacity", name := "next", desc := "(I)I" } : Jvm.MethodName) prog_6_method_2_code (1 : Nat) (Option.some Jvm.ClassFile.FieldType.int)).before args0 about1 = true := code_word (m := ⟨3, 1⟩) (meth := k3m1) (c := k3c1) (by decide +kernel) rfl rfl rfl (by decide +kernel)
set_option maxRecDepth 65536 in
theorem w_c5 : (Jvm.Cond.code ({ cls := "java/lang/Math", name := "max", desc := "(JJ)J" } : Jvm.MethodName) jdk_29_method_66_code (4 : Nat) (Option.some Jvm.ClassFile.FieldType.long)).before args0 about1 = true := code_word (m := ⟨4, 1⟩) (meth := k4m1) (c := k4c1) (by decide +kernel) rfl rfl rfl (by decide +kernel)
set_option maxRecDepth 65536 in
theorem w_c6 : (Jvm.Cond.code ({ cls := "java/lang/Math", name := "min", desc := "(JJ)J" } : Jvm.MethodName) jdk_29_method_70_code (4 : Nat) (Option.some Jvm.ClassFile.FieldType.long)).before args0 about1 = true := code_word (m := ⟨4, 3⟩) (meth := k4m3) (c := k4c3) (by decide +kernel) rfl rfl rfl (by decide +kernel)
set_option maxRecDepth 65536 in
theorem w_c7 : (Jvm.Cond.code ({ cls := "com/example/edgewise/edgewise/EdgeSlots", name := "resize", desc := "(I)V" } : Jvm.MethodName) prog_12_method_22_code (2 : Nat) (Option.none : Option Jvm.ClassFile.FieldType)).before args0 about1 = true := code_word (m := ⟨2, 7⟩) (meth := k2m7) (c := k2c7) (by decide +kernel) rfl rfl rfl (by decide +kernel)
set_option maxRecDepth 65536 in
theorem w_c8 : (Jvm.Cond.code ({ cls := "java/util/Arrays", name := "copyOf", desc := "([II)[I" } : Jvm.MethodName) jdk_65_method_123_code (3 : Nat) (Option.some (Jvm.ClassFile.FieldType.array Jvm.ClassFile.FieldType.int))).before args0 about1 = true := code_word (m := ⟨5, 1⟩) (meth := k5m1) (c := k5c1) (by decide +kernel) rfl rfl rfl (by decide +kernel)
set_option maxRecDepth 65536 in
theorem w_c9 : (Jvm.Cond.code ({ cls := "java/lang/Math", name := "min", desc := "(II)I" } : Jvm.MethodName) jdk_29_method_69_code (2 : Nat) (Option.some Jvm.ClassFile.FieldType.int)).before args0 about1 = true := code_word (m := ⟨4, 2⟩) (meth := k4m2) (c := k4c2) (by decide +kernel) rfl rfl rfl (by decide +kernel)
set_option maxRecDepth 65536 in
theorem w_c10 : (Jvm.Cond.code ({ cls := "java/util/Arrays", name := "copyOf", desc := "([DI)[D" } : Jvm.MethodName) jdk_65_method_127_code (3 : Nat) (Option.some (Jvm.ClassFile.FieldType.array Jvm.ClassFile.FieldType.double))).before args0 about1 = true := code_word (m := ⟨5, 2⟩) (meth := k5m2) (c := k5c2) (by decide +kernel) rfl rfl rfl (by decide +kernel)
set_option maxRecDepth 65536 in
theorem w_c11 : (Jvm.Cond.code ({ cls := "com/example/edgewise/edgewise/EdgeSlots", name := "remove", desc := "(I)V" } : Jvm.MethodName) prog_12_method_3_code (2 : Nat) (Option.none : Option Jvm.ClassFile.FieldType)).before args0 about1 = true := code_word (m := ⟨2, 2⟩) (meth := k2m2) (c := k2c2) (by decide +kernel) rfl rfl rfl (by decide +kernel)
set_option maxRecDepth 65536 in
theorem w_c12 : (Jvm.Cond.code ({ cls := "com/example/edgewise/edgewise/EdgeSlots", name := "count", desc := "()I" } : Jvm.MethodName) prog_12_method_5_code (1 : Nat) (Option.some Jvm.ClassFile.FieldType.int)).before args0 about1 = true := code_word (m := ⟨2, 4⟩) (meth := k2m4) (c := k2c4) (by decide +kernel) rfl rfl rfl (by decide +kernel)
set_option maxRecDepth 65536 in
theorem w_c13 : (Jvm.Cond.code ({ cls := "com/example/edgewise/edgewise/EdgeSlots", name := "bound", desc := "()I" } : Jvm.MethodName) prog_12_method_4_code (1 : Nat) (Option.some Jvm.ClassFile.FieldType.int)).before args0 about1 = true := code_word (m := ⟨2, 3⟩) (meth := k2m3) (c := k2c3) (by decide +kernel) rfl rfl rfl (by decide +kernel)
set_option maxRecDepth 65536 in
theorem w_c14 : (Jvm.Cond.code ({ cls := "com/example/edgewise/edgewise/EdgeSlots", name := "source", desc := "(I)I" } : Jvm.MethodName) prog_12_method_9_code (2 : Nat) (Option.some Jvm.ClassFile.FieldType.int)).before args0 about1 = true := code_word (m := ⟨2, 5⟩) (meth := k2m5) (c := k2c5) (by decide +kernel) rfl rfl rfl (by decide +kernel)
set_option maxRecDepth 65536 in
theorem w_c15 : (Jvm.Cond.code ({ cls := "com/example/edgewise/edgewise/EdgeSlots", name := "target", desc := "(I)I" } : Jvm.MethodName) prog_12_method_10_code (2 : Nat) (Option.some Jvm.ClassFile.FieldType.int)).before args0 about1 = true := code_word (m := ⟨2, 6⟩) (meth := k2m6) (c := k2c6) (by decide +kernel) rfl rfl rfl (by decide +kernel)
def codes1 : List Jvm.Cond := [Jvm.Cond.code x code maxLocals ret, Jvm.Cond.code ({ cls := "com/example/edgewise/edgewise/EdgeSlots", name := "<init>", desc := "(Z)V" } : Jvm.MethodName) prog_12_method_1_code (2 : Nat) (Option.none : Option Jvm.ClassFile.FieldType), Jvm.Cond.code ({ cls := "java/lang/Object", name := "<init>", desc := "()V" } : Jvm.MethodName) object_method_1_code (1 : Nat) (Option.none : Option Jvm.ClassFile.FieldType), Jvm.Cond.code ({ cls := "com/example/edgewise/edgewise/EdgeSlots", name := "add", desc := "(IIDI)I" } : Jvm.MethodName) prog_12_method_2_code (7 : Nat) (Option.some Jvm.ClassFile.FieldType.int), Jvm.Cond.code ({ cls := "com/example/edgewise/edgewise/Capacity", name := "next", desc := "(I)I" } : Jvm.MethodName) prog_6_method_2_code (1 : Nat) (Option.some Jvm.ClassFile.FieldType.int), Jvm.Cond.code ({ cls := "java/lang/Math", name := "max", desc := "(JJ)J" } : Jvm.MethodName) jdk_29_method_66_code (4 : Nat) (Option.some Jvm.ClassFile.FieldType.long), Jvm.Cond.code ({ cls := "java/lang/Math", name := "min", desc := "(JJ)J" } : Jvm.MethodName) jdk_29_method_70_code (4 : Nat) (Option.some Jvm.ClassFile.FieldType.long), Jvm.Cond.code ({ cls := "com/example/edgewise/edgewise/EdgeSlots", name := "resize", desc := "(I)V" } : Jvm.MethodName) prog_12_method_22_code (2 : Nat) (Option.none : Option Jvm.ClassFile.FieldType), Jvm.Cond.code ({ cls := "java/util/Arrays", name := "copyOf", desc := "([II)[I" } : Jvm.MethodName) jdk_65_method_123_code (3 : Nat) (Option.some (Jvm.ClassFile.FieldType.array Jvm.ClassFile.FieldType.int)), Jvm.Cond.code ({ cls := "java/lang/Math", name := "min", desc := "(II)I" } : Jvm.MethodName) jdk_29_method_69_code (2 : Nat) (Option.some Jvm.ClassFile.FieldType.int), Jvm.Cond.code ({ cls := "java/util/Arrays", name := "copyOf", desc := "([DI)[D" } : Jvm.MethodName) jdk_65_method_127_code (3 : Nat) (Option.some (Jvm.ClassFile.FieldType.array Jvm.ClassFile.FieldType.double)), Jvm.Cond.code ({ cls := "com/example/edgewise/edgewise/EdgeSlots", name := "remove", desc := "(I)V" } : Jvm.MethodName) prog_12_method_3_code (2 : Nat) (Option.none : Option Jvm.ClassFile.FieldType), Jvm.Cond.code ({ cls := "com/example/edgewise/edgewise/EdgeSlots", name := "count", desc := "()I" } : Jvm.MethodName) prog_12_method_5_code (1 : Nat) (Option.some Jvm.ClassFile.FieldType.int), Jvm.Cond.code ({ cls := "com/example/edgewise/edgewise/EdgeSlots", name := "bound", desc := "()I" } : Jvm.MethodName) prog_12_method_4_code (1 : Nat) (Option.some Jvm.ClassFile.FieldType.int), Jvm.Cond.code ({ cls := "com/example/edgewise/edgewise/EdgeSlots", name := "source", desc := "(I)I" } : Jvm.MethodName) prog_12_method_9_code (2 : Nat) (Option.some Jvm.ClassFile.FieldType.int), Jvm.Cond.code ({ cls := "com/example/edgewise/edgewise/EdgeSlots", name := "target", desc := "(I)I" } : Jvm.MethodName) prog_12_method_10_code (2 : Nat) (Option.some Jvm.ClassFile.FieldType.int)]
set_option maxRecDepth 65536 in
theorem codes_eq : words1.filter isCode = codes1 := rfl
theorem w_codes : ∀ c ∈ words1.filter isCode, c.before args0 about1 = true := by
  rw [codes_eq]
  intro c hc
  simp only [codes1, List.mem_cons, List.not_mem_nil, or_false] at hc
  rcases hc with rfl | rfl | rfl | rfl | rfl | rfl | rfl | rfl | rfl | rfl | rfl | rfl | rfl | rfl | rfl | rfl
  · exact w_c0
  · exact w_c1
  · exact w_c2
  · exact w_c3
  · exact w_c4
  · exact w_c5
  · exact w_c6
  · exact w_c7
  · exact w_c8
  · exact w_c9
  · exact w_c10
  · exact w_c11
  · exact w_c12
  · exact w_c13
  · exact w_c14
  · exact w_c15
set_option maxRecDepth 65536 in
theorem w_t1 : (words1.take 24).all (fun c => isCode c || c.before args0 about1) = true := by decide +kernel
set_option maxRecDepth 65536 in
theorem w_t2 : ((words1.drop 24).take 24).all (fun c => isCode c || c.before args0 about1) = true := by decide +kernel
set_option maxRecDepth 65536 in
theorem w_t3 : (((words1.drop 24).drop 24).take 24).all (fun c => isCode c || c.before args0 about1) = true := by decide +kernel
set_option maxRecDepth 65536 in
theorem w_t4 : ((((words1.drop 24).drop 24).drop 24).take 24).all (fun c => isCode c || c.before args0 about1) = true := by decide +kernel
set_option maxRecDepth 65536 in
theorem w_t5 : ((((words1.drop 24).drop 24).drop 24).drop 24).all (fun c => isCode c || c.before args0 about1) = true := by decide +kernel
theorem w_tables : (allAtoms (Jvm.Cond.code x code maxLocals ret :: tables_1)).before args0 about1 = true := by
  rw [allAtoms_all]
  show words1.all (fun c => c.before args0 about1) = true
  refine all_split ?_ w_codes
  rw [← List.take_append_drop 24 words1, List.all_append, w_t1, ← List.take_append_drop 24 (words1.drop 24), List.all_append, w_t2, ← List.take_append_drop 24 ((words1.drop 24).drop 24), List.all_append, w_t3, ← List.take_append_drop 24 (((words1.drop 24).drop 24).drop 24), List.all_append, w_t4, w_t5]
  rfl
set_option maxRecDepth 65536 in
theorem w_case : (Jvm.Cond.and given_1 narrow_1).before args0 about1 = true := by decide +kernel
theorem w_applies : (headSpec (Jvm.Cond.code x code maxLocals ret :: tables_1) room_1).applies x e0.platform about1 = true :=
  (Spec.applies_iff w_frames).mpr ⟨w_running, w_runnable, w_alone, w_named, w_hears, w_ripe, w_room, w_tables⟩
theorem atStart : AtStart classFile x code maxLocals ret World_1 tables_1 room_1 Calls_1 rest_1 Pre_1 launch0 p0 e0 about1 theMethod args0 below0 :=
  ⟨lists_1, trivial, launch0.admits_env _ _ _, launch0.least_env, fairChoices_fair.cas, fairChoices_fair.clock, w_frames, w_args, w_heap, w_applies, trivial, trivial, w_case⟩
end start1
theorem witness_1 : WitnessClaimed_1 := ⟨start1.p0, start1.e0, start1.about1, start1.theMethod, start1.args0, start1.below0, start1.atStart⟩
end Jvm.Pilot.@@N@@
