import JvmDerived
import JvmDerived.Pilot.@@N@@Statement
import JvmDerived.Pilot.@@N@@Code
set_option linter.unusedVariables false
set_option linter.unusedSimpArgs false
namespace Jvm.OwnKit
open Sem ClassFile Op Lib Jvm.Stand Jvm.Free Jvm.LawKit Jvm.RoadKit
theorem irem_mod (x y : Int32) : x - x / y * y = x % y := by
  have hm : (x % y).toInt = x.toInt - x.toInt.tdiv y.toInt * y.toInt := by
    rw [Int32.toInt_mod, Int.tmod_def, Int.mul_comm]
  have hb := Int32.toInt_lt (x % y)
  have hl := Int32.le_toInt (x % y)
  have e : (x - x / y * y).toInt = (x % y).toInt.bmod (2 ^ 32) := by
    rw [hm, Int32.toInt_sub, Int32.toInt_mul, Int32.toInt_div, Int.sub_bmod_bmod, Int.sub_eq_add_neg, Int.sub_eq_add_neg]
    rw [← Int.add_bmod_bmod, ← Int.add_bmod_bmod (y := -(x.toInt.tdiv y.toInt * y.toInt))]
    congr 2
    rw [← Int.neg_mul, ← Int.neg_mul]
    rw [← Int.bmod_mul_bmod, Int.bmod_neg_bmod, Int.bmod_mul_bmod]
  apply Int32.toInt_inj.mp
  rw [e]
  exact Int.bmod_eq_of_le_mul_two (by omega) (by omega)
/-- what a body's end says -/
def Done (s : State) (below : List Frame) (Q : Option Value → Heap → List Loc → Prop) (C S : Nat) (t : State) (o : Outcome) : Prop :=
  t.status = .running ∧ Ended t below o ∧ ∃ v L, o = .returned v ∧ Q v t.heap L ∧ FrameEnd s o t L C S
/-- from here the run ends as asked -/
def Go (tb : Tables) (e : Env) (below : List Frame) (s : State) (Q : Option Value → Heap → List Loc → Prop) (C S : Nat) (A : State) : Prop :=
  ∃ t o, Steps tb e below A t ∧ Done s below Q C S t o
theorem Go.of {tb : Tables} {e : Env} {below : List Frame} {s : State} {Q : Option Value → Heap → List Loc → Prop} {C S : Nat} {A B : State}
    (g : ∀ t, Steps tb e below B t → Steps tb e below A t) (h : Go tb e below s Q C S B) : Go tb e below s Q C S A := by
  obtain ⟨t, o, h1, h2⟩ := h
  exact ⟨t, o, g t h1, h2⟩
theorem Go.push {tb : Tables} {e : Env} {below : List Frame} {s : State} {Q : Option Value → Heap → List Loc → Prop} {C S : Nat} {T : State} {m : MethodId} {pc pc' : Nat} {Ls : Array Slot} {v : Value} {st : List Value} (hp : pc = pc') (h : Go tb e below s Q C S (T.setTop (mkF m pc' Ls (v :: st)))) : Go tb e below s Q C S (T.setTop (mkF m pc Ls ((some v).toList ++ st))) := hp ▸ h
theorem Go.void {tb : Tables} {e : Env} {below : List Frame} {s : State} {Q : Option Value → Heap → List Loc → Prop} {C S : Nat} {T : State} {m : MethodId} {pc pc' : Nat} {Ls : Array Slot} {st : List Value} (hp : pc = pc') (h : Go tb e below s Q C S (T.setTop (mkF m pc' Ls st))) : Go tb e below s Q C S (T.setTop (mkF m pc Ls ((none : Option Value).toList ++ st))) := hp ▸ h
theorem Go.join {tb : Tables} {e : Env} {below : List Frame} {s : State} {Q : Option Value → Heap → List Loc → Prop} {C S : Nat} {A : State} {α : Type} {P : α → Prop} {F : α → State}
    (h1 : ∀ x, P x → Go tb e below s Q C S (F x)) (h2 : (∀ x, P x → Go tb e below s Q C S (F x)) → Go tb e below s Q C S A) : Go tb e below s Q C S A := h2 h1
section Ret
variable {p : Program} {l : Launch} {e : Env} {R : Room} {s : State} {m : MethodId} {args : Array Value} {below : List Frame} {meth : Method} {c : Code} {T : State} {locs : List Loc} {cells slots : Nat} {Q : Option Value → Heap → List Loc → Prop} {C S : Nat}
theorem Go.retV (X : Stand p l e R s m args below meth c T locs cells slots) (hx : p.tables.exec = Jvm.exec) (hlk : meth.locks = false) {pc : Nat} {Ls : Array Slot} {st : List Value} (hret : meth.sig.returnType = none)
    (hd : decode c.code pc = .ok (.return_, 1)) (hs : st = []) (hc : cells ≤ C) (hn : slots ≤ S) (hq : Q none T.heap locs) : Go p.tables e below s Q C S (T.setTop (mkF m pc Ls st)) := by
  subst hs
  obtain ⟨fs, hr, hrun, hended, hW, hsame⟩ := X.leave (v := none) (fun _ => rfl)
  exact ⟨_, _, X.returnOut hx hret hd hr, hrun, hended, _, _, rfl, hq, ⟨_, rfl⟩, hW, hsame.mono hc hn⟩
theorem Go.retW (X : Stand p l e R s m args below meth c T locs cells slots) (hx : p.tables.exec = Jvm.exec) (hlk : meth.locks = false) {pc : Nat} {Ls : Array Slot} {w : Value} {t : FieldType} {i : Instr} {rest : List Value}
    (hret : meth.sig.returnType = some t) (hn : narrow t w = w)
    (hi : (i = .ireturn ∧ (t = .int ∨ t = .boolean ∨ t = .byte ∨ t = .char ∨ t = .short) ∧ ∃ z, w = .int z) ∨ (i = .lreturn ∧ t = .long ∧ ∃ z, w = .long z) ∨ (i = .dreturn ∧ t = .double ∧ ∃ z, w = .double z) ∨ (i = .freturn ∧ t = .float ∧ ∃ z, w = .float z) ∨ (i = .areturn ∧ t.isReference = true ∧ w.isRef = true))
    (hd : decode c.code pc = .ok (i, 1)) (hc : cells ≤ C) (hsl : slots ≤ S) (hq : Q (some w) T.heap locs) : Go p.tables e below s Q C S (T.setTop (mkF m pc Ls (w :: rest))) := by
  obtain ⟨fs, hr, hrun, hended, hW, hsame⟩ := X.leave (v := some w) (fun h => by rw [hret] at h; cases h)
  exact ⟨_, _, retOut X hx hret hn hi hd hr, hrun, hended, _, _, rfl, hq, ⟨_, rfl⟩, hW, hsame.mono hc hsl⟩
theorem Go.retI (X : Stand p l e R s m args below meth c T locs cells slots) (hx : p.tables.exec = Jvm.exec) (hlk : meth.locks = false) {pc : Nat} {Ls : Array Slot} {z : Int32} {rest : List Value}
    (hret : meth.sig.returnType = some .int) (hd : decode c.code pc = .ok (.ireturn, 1)) (hc : cells ≤ C) (hsl : slots ≤ S) (hq : Q (some (.int z)) T.heap locs) : Go p.tables e below s Q C S (T.setTop (mkF m pc Ls (.int z :: rest))) :=
  Go.retW X hx hlk hret rfl (Or.inl ⟨rfl, Or.inl rfl, _, rfl⟩) hd hc hsl hq
theorem Go.retZ (X : Stand p l e R s m args below meth c T locs cells slots) (hx : p.tables.exec = Jvm.exec) (hlk : meth.locks = false) {pc : Nat} {Ls : Array Slot} {z : Int32} {rest : List Value} {t : FieldType}
    (hret : meth.sig.returnType = some t) (ht : t = .boolean ∨ t = .byte ∨ t = .char ∨ t = .short) (hd : decode c.code pc = .ok (.ireturn, 1)) (hc : cells ≤ C) (hsl : slots ≤ S) (hq : Q (some (.int (nar t z))) T.heap locs) : Go p.tables e below s Q C S (T.setTop (mkF m pc Ls (.int z :: rest))) := by
  obtain ⟨fs, hr, hrun, hended, hW, hsame⟩ := X.leave (v := some (.int (nar t z))) (fun h => by rw [hret] at h; cases h)
  exact ⟨_, _, retN X hx hret ht hd hr, hrun, hended, _, _, rfl, hq, ⟨_, rfl⟩, hW, hsame.mono hc hsl⟩
theorem Go.retL (X : Stand p l e R s m args below meth c T locs cells slots) (hx : p.tables.exec = Jvm.exec) (hlk : meth.locks = false) {pc : Nat} {Ls : Array Slot} {z : Int64} {rest : List Value}
    (hret : meth.sig.returnType = some .long) (hd : decode c.code pc = .ok (.lreturn, 1)) (hc : cells ≤ C) (hsl : slots ≤ S) (hq : Q (some (.long z)) T.heap locs) : Go p.tables e below s Q C S (T.setTop (mkF m pc Ls (.long z :: rest))) :=
  Go.retW X hx hlk hret rfl (Or.inr (Or.inl ⟨rfl, rfl, _, rfl⟩)) hd hc hsl hq
theorem Go.retA (X : Stand p l e R s m args below meth c T locs cells slots) (hx : p.tables.exec = Jvm.exec) (hlk : meth.locks = false) {pc : Nat} {Ls : Array Slot} {w : Value} {rest : List Value} {t : FieldType}
    (hret : meth.sig.returnType = some t) (ht : t.isReference = true) (hw : w.isRef = true) (hd : decode c.code pc = .ok (.areturn, 1)) (hc : cells ≤ C) (hsl : slots ≤ S) (hq : Q (some w) T.heap locs) : Go p.tables e below s Q C S (T.setTop (mkF m pc Ls (w :: rest))) :=
  Go.retW X hx hlk hret (by cases t <;> first | rfl | (simp [FieldType.isReference] at ht)) (Or.inr (Or.inr (Or.inr (Or.inr ⟨rfl, ht, hw⟩)))) hd hc hsl hq
end Ret
/-- the contract of a body, by its walk -/
theorem meet {l : Launch} {Z : State} {y : MethodName} {bytes : ByteArray} {maxL : Nat} {ret : Option FieldType} {ws : List Cond} {rm : Room} {as : Array Value} {Ls : Array Slot} {h0 : Heap} {Q : Option Value → Heap → List Loc → Prop}
    (hpl : plainFor y = true) (ef : ∀ m, entryFrame m as maxL = mkF m 0 Ls [])
    (body : ∀ (p : Program) (e : Env) (s : State) (m : MethodId) (below : List Frame) (meth : Method) (c : Code) (T : State), p.tables.exec = Jvm.exec → c.code = bytes → c.maxLocals = maxL → Z.Warmed39 s.vm → s.vm.findClass y.cls = some m.cls → meth.name = y.name →
      meth.sig.returnType = ret → meth.locks = false → Stand p l e rm s m as below meth c T [] 0 0 → T.heap = h0 → Go p.tables e below s Q rm.cells rm.slots (T.setTop (mkF m 0 Ls []))) :
    MetFree l y (head1 (Cond.code y bytes maxL ret :: ws) rm) (fun a U => a = as ∧ Z.Warmed39 U.vm ∧ U.heap = h0) (fun _ _ _ _ _ => True) (fun _ U o U' => ∃ v L, o = .returned v ∧ Q v U'.heap L ∧ FrameEnd U o U' L rm.cells rm.slots) := by
  refine MetFree.of_bodySF hpl hisR ?_
  intro p e s m args below meth c s₁ Bd hml0 hP hK
  obtain ⟨rfl, hZ, hh⟩ := hP
  obtain ⟨t, o, h1, h2, h3, h4⟩ := body p e s m below meth c s₁ Bd.exec Bd.bytes hml0 hZ (findClass_of_methodNamed Bd.named) (name_of_methodNamed Bd.named Bd.method).1 Bd.returns Bd.notSynchronized (Stand.of_body Bd) (by rw [← hh, Bd.state]; rfl)
  exact ⟨t, o, castTop (ef m) h1, h2, h3, h4⟩
/-- what a callee's contract says -/
abbrev Con (l : Launch) (Z : State) (y : MethodName) (bytes : ByteArray) (maxL : Nat) (ret : Option FieldType) (rm : Room) (as : Array Value) (h0 : Heap) (Q : Option Value → Heap → List Loc → Prop) : Prop :=
  MetFree l y (head1 [Cond.code y bytes maxL ret] rm) (fun a U => a = as ∧ Z.Warmed39 U.vm ∧ U.heap = h0) (fun _ _ _ _ _ => True) (fun _ U o U' => ∃ v L, o = .returned v ∧ Q v U'.heap L ∧ FrameEnd U o U' L rm.cells rm.slots)
section Call
variable {p : Program} {l : Launch} {e : Env} {R : Room} {s : State} {m : MethodId} {args : Array Value} {below : List Frame} {meth : Method} {c : Code} {T : State} {locs : List Loc} {cells slots : Nat} {Q : Option Value → Heap → List Loc → Prop} {C S : Nat} {Z : State} {a0 : Array Value} {h : Heap}
theorem Go.callS (X : Stand p l e R s m args below meth c T locs cells slots) (hx : p.tables.exec = Jvm.exec) (hZ : Z.Warmed39 s.vm) {own : String} {index : Nat} {y : MethodName} {bytes : ByteArray} {maxL : Nat} {ret : Option FieldType} {rm : Room} {Q' : Option Value → Heap → List Loc → Prop}
    (hown : s.vm.findClass own = some m.cls) (w1 : (Cond.methodLink own index y).before a0 Z = true) (w2 : (Cond.static y).before a0 Z = true) (w3 : (Cond.initialized y.cls).before a0 Z = true)
    (w4 : (Cond.code y bytes maxL ret).before a0 Z = true) (hy : y.cls ≠ "java/lang/invoke/MethodHandle" ∧ y.cls ≠ "java/lang/invoke/VarHandle")
    (eT : T.heap = h) {pc : Nat} {Ls : Array Slot} {argsL rest st : List Value} {W : Nat} {ps : List FieldType} (hM : Con l Z y bytes maxL ret rm argsL.toArray h Q') (hd : decode c.code pc = .ok (.invokestatic index, 3))
    (hsz : Ls.size = c.maxLocals) (hst : st = argsL.reverse ++ rest) (hpd : parseMethodDescriptor y.desc = some ⟨ps, ret⟩) (hlen : argsL.length = ps.length) (hW : (rest.map fun v => v.category).sum = W)
    (hf : rm.frames + 1 ≤ R.frames) (hl : W + (maxL + 11) + rm.locals ≤ R.locals) (hc : cells + rm.cells ≤ R.cells) (hn : slots + rm.slots ≤ R.slots)
    (k : ∀ (v : Option Value) (T' : State) (L' : List Loc), Stand p l e R s m args below meth c T' (locs ++ L') (cells + rm.cells) (slots + rm.slots) → Q' v T'.heap L' → Go p.tables e below s Q C S (T'.setTop (mkF m (pc + 3) Ls (v.toList ++ rest)))) :
    Go p.tables e below s Q C S (T.setTop (mkF m pc Ls st)) := by
  obtain ⟨v, _, ⟨T', L', kc, kn⟩, -, X', ⟨Lc, hQ, l3, y3, z3⟩, st⟩ := Jvm.LawKit.callS X hx hown (mvT hZ w1) (mvT hZ w2) (mvT hZ w3) (mvT hZ w4) hy (backOf (W := W) hM hZ w4 w3 hf hl) (g := mkF m pc Ls st) rfl hsz (argsL := argsL) (rest := rest) (lenOf hpd hlen) hst (by show 2 * 0 + _ ≤ _; rw [hW]; omega) hd (fun _ _ => ⟨rfl, eT, hc, hn⟩)
  dsimp only [Pt.U, Pt.locs, Pt.cells, Pt.slots] at X' l3 y3 z3 st hQ
  subst l3 y3 z3
  exact Go.of st (k v T' Lc X' hQ)
theorem Go.callI (X : Stand p l e R s m args below meth c T locs cells slots) (hx : p.tables.exec = Jvm.exec) (hZ : Z.Warmed39 s.vm) {own : String} {index : Nat} {y : MethodName} {bytes : ByteArray} {maxL : Nat} {rm : Room} {Q' : Option Value → Heap → List Loc → Prop}
    (hown : s.vm.findClass own = some m.cls) (hy1 : y.name = "<init>") (w1 : (Cond.methodLink own index y).before a0 Z = true) (w2 : (Cond.instanceMethod y).before a0 Z = true) (w3 : (Cond.initialized y.cls).before a0 Z = true)
    (w4 : (Cond.code y bytes maxL none).before a0 Z = true) (hy : y.cls ≠ "java/lang/invoke/MethodHandle" ∧ y.cls ≠ "java/lang/invoke/VarHandle")
    (eT : T.heap = h) {pc : Nat} {Ls : Array Slot} {a : Addr} {argsL rest st : List Value} {W : Nat} {ps : List FieldType} (hM : Con l Z y bytes maxL none rm (.ref a :: argsL).toArray h Q') (hd : decode c.code pc = .ok (.invokespecial index, 3))
    (hsz : Ls.size = c.maxLocals) (hst : st = argsL.reverse ++ .ref a :: rest) (hpd : parseMethodDescriptor y.desc = some ⟨ps, none⟩) (hlen : argsL.length = ps.length) (hW : (rest.map fun v => v.category).sum = W)
    (hf : rm.frames + 1 ≤ R.frames) (hl : W + (maxL + 11) + rm.locals ≤ R.locals) (hc : cells + rm.cells ≤ R.cells) (hn : slots + rm.slots ≤ R.slots)
    (k : ∀ (v : Option Value) (T' : State) (L' : List Loc), Stand p l e R s m args below meth c T' (locs ++ L') (cells + rm.cells) (slots + rm.slots) → Q' v T'.heap L' → Go p.tables e below s Q C S (T'.setTop (mkF m (pc + 3) Ls (v.toList ++ rest)))) :
    Go p.tables e below s Q C S (T.setTop (mkF m pc Ls st)) := by
  obtain ⟨v, _, ⟨T', L', kc, kn⟩, -, X', ⟨Lc, hQ, l3, y3, z3⟩, st⟩ := X.specialBack hx hy1 hown (mvT hZ w1) (mvT hZ w2) (mvT hZ w4) hy (backOf (W := W) hM hZ w4 w3 hf hl) (g := mkF m pc Ls st) rfl hsz (Steps.refl _) (a := a) (argsL := argsL) (rest := rest) (lenOf hpd hlen) hst (by show 2 * 0 + _ ≤ _; rw [hW]; omega) hd (fun _ _ => ⟨rfl, eT, hc, hn⟩)
  dsimp only [Pt.U, Pt.locs, Pt.cells, Pt.slots] at X' l3 y3 z3 st hQ
  subst l3 y3 z3
  exact Go.of (fun _ q => st.trans q) (k v T' Lc X' hQ)
theorem Go.callV (X : Stand p l e R s m args below meth c T locs cells slots) (hx : p.tables.exec = Jvm.exec) (hZ : Z.Warmed39 s.vm) {own K : String} {index : Nat} {y z : MethodName} {bytes : ByteArray} {maxL : Nat} {ret : Option FieldType} {rm : Room} {Q' : Option Value → Heap → List Loc → Prop}
    (hown : s.vm.findClass own = some m.cls) (w1 : (Cond.methodLink own index y).before a0 Z = true) (w2 : (Cond.declares y).before a0 Z = true) (nf : NotFace s y) (w5 : (Cond.selects K y z).before a0 Z = true) (w6 : (Cond.instanceMethod z).before a0 Z = true) (w3 : (Cond.initialized z.cls).before a0 Z = true)
    (w4 : (Cond.code z bytes maxL ret).before a0 Z = true) (hy : y.cls ≠ "java/lang/invoke/MethodHandle" ∧ y.cls ≠ "java/lang/invoke/VarHandle")
    (eT : T.heap = h) {pc : Nat} {Ls : Array Slot} {a : Addr} {argsL rest st : List Value} {W : Nat} {ps : List FieldType} {rt : Option FieldType} (E : Exa Z h a K) (hM : Con l Z z bytes maxL ret rm (.ref a :: argsL).toArray h Q') (hd : decode c.code pc = .ok (.invokevirtual index, 3))
    (hsz : Ls.size = c.maxLocals) (hst : st = argsL.reverse ++ .ref a :: rest) (hpd : parseMethodDescriptor y.desc = some ⟨ps, rt⟩) (hlen : argsL.length = ps.length) (hW : (rest.map fun v => v.category).sum = W)
    (hf : rm.frames + 1 ≤ R.frames) (hl : W + (maxL + 11) + rm.locals ≤ R.locals) (hc : cells + rm.cells ≤ R.cells) (hn : slots + rm.slots ≤ R.slots)
    (k : ∀ (v : Option Value) (T' : State) (L' : List Loc), Stand p l e R s m args below meth c T' (locs ++ L') (cells + rm.cells) (slots + rm.slots) → Q' v T'.heap L' → Go p.tables e below s Q C S (T'.setTop (mkF m (pc + 3) Ls (v.toList ++ rest)))) :
    Go p.tables e below s Q C S (T.setTop (mkF m pc Ls st)) := by
  obtain ⟨cq, kq, qa, qb, qc⟩ := isOf hZ eT E
  obtain ⟨v, _, ⟨T', L', kc, kn⟩, -, X', ⟨Lc, hQ, l3, y3, z3⟩, st⟩ := X.virtualBack hx (y := y) (z := z) hown (mvT hZ w1) (mvT hZ w2) nf (mvT hZ w5) (mvT hZ w6) hy (backOf (W := W) hM hZ w4 w3 hf hl) qa qc (g := mkF m pc Ls st) rfl hsz (Steps.refl _) (argsL := argsL) (rest := rest) (lenOf hpd hlen) hst (by show 2 * 0 + _ ≤ _; rw [hW]; omega) hd (fun _ _ => ⟨rfl, eT, hc, hn⟩)
  dsimp only [Pt.U, Pt.locs, Pt.cells, Pt.slots] at X' l3 y3 z3 st hQ
  subst l3 y3 z3
  exact Go.of (fun _ q => st.trans q) (k v T' Lc X' hQ)
/-- a private method by invokevirtual -/
theorem Go.callP (X : Stand p l e R s m args below meth c T locs cells slots) (hx : p.tables.exec = Jvm.exec) (hZ : Z.Warmed39 s.vm) {own K : String} {index : Nat} {y : MethodName} {bytes : ByteArray} {maxL : Nat} {ret : Option FieldType} {rm : Room} {Q' : Option Value → Heap → List Loc → Prop}
    (hown : s.vm.findClass own = some m.cls) (w1 : (Cond.methodLink own index y).before a0 Z = true) (w6 : (Cond.instanceMethod y).before a0 Z = true) {kk : Nat} (w5 : (Cond.instantiable y.cls kk).before a0 Z = true) (w7 : (Cond.privateMethod y).before a0 Z = true) (w3 : (Cond.initialized y.cls).before a0 Z = true)
    (w4 : (Cond.code y bytes maxL ret).before a0 Z = true) (hy : y.cls ≠ "java/lang/invoke/MethodHandle" ∧ y.cls ≠ "java/lang/invoke/VarHandle")
    (eT : T.heap = h) {pc : Nat} {Ls : Array Slot} {a : Addr} {argsL rest st : List Value} {W : Nat} {ps : List FieldType} {rt : Option FieldType} (E : Exa Z h a K) (hM : Con l Z y bytes maxL ret rm (.ref a :: argsL).toArray h Q') (hd : decode c.code pc = .ok (.invokevirtual index, 3))
    (hsz : Ls.size = c.maxLocals) (hst : st = argsL.reverse ++ .ref a :: rest) (hpd : parseMethodDescriptor y.desc = some ⟨ps, rt⟩) (hlen : argsL.length = ps.length) (hW : (rest.map fun v => v.category).sum = W)
    (hf : rm.frames + 1 ≤ R.frames) (hl : W + (maxL + 11) + rm.locals ≤ R.locals) (hc : cells + rm.cells ≤ R.cells) (hn : slots + rm.slots ≤ R.slots)
    (k : ∀ (v : Option Value) (T' : State) (L' : List Loc), Stand p l e R s m args below meth c T' (locs ++ L') (cells + rm.cells) (slots + rm.slots) → Q' v T'.heap L' → Go p.tables e below s Q C S (T'.setTop (mkF m (pc + 3) Ls (v.toList ++ rest)))) :
    Go p.tables e below s Q C S (T.setTop (mkF m pc Ls st)) := by
  obtain ⟨cq, q1, q2⟩ := E.cell
  obtain ⟨c2, k2, i1, i2, -, i4, -⟩ := Cond.instantiable_spec (mvT (args := args) hZ w5)
  have hpv : s.PrivateAt y := Cond.privateMethod_at (mvP hZ w7 (args := #[]))
  have hsel : (Cond.selects y.cls y y).before args s = true := selects_self_of_private i1 i2 (by simpa using (Bool.or_eq_false_iff.mp i4).1) hpv (mvT hZ w6) hy
  obtain ⟨v, _, ⟨T', L', kc, kn⟩, -, X', ⟨Lc, hQ, l3, y3, z3⟩, st⟩ := X.privateBack hx (y := y) hown (mvT hZ w1) (mvT hZ w6) hsel hpv (mvT hZ w4) hy (backOf (W := W) hM hZ w4 w3 hf hl) (g := mkF m pc Ls st) rfl hsz (Steps.refl _) (a := a) (by rw [eT]; exact q1) q2 (argsL := argsL) (rest := rest) (lenOf hpd hlen) hst (by show 2 * 0 + _ ≤ _; rw [hW]; omega) hd (fun _ _ => ⟨rfl, eT, hc, hn⟩)
  dsimp only [Pt.U, Pt.locs, Pt.cells, Pt.slots] at X' l3 y3 z3 st hQ
  subst l3 y3 z3
  exact Go.of (fun _ q => st.trans q) (k v T' Lc X' hQ)
end Call
/-- an array of n places, place i holding f i -/
def ArF (Z : State) (h : Heap) (a : Addr) (ty : FieldType) (n : Nat) (f : Nat → Value) : Prop :=
  ∃ cl : Cell, Arr Z h a cl ty ∧ cl.slots.size = n ∧ n < 2 ^ 31 ∧ (∀ i, i < n → cl.slots[i]? = some (f i)) ∧ ∀ i, i < n → fits ty (f i) = true
def upV (f : Nat → Value) (j : Nat) (v : Value) (i : Nat) : Value := if i = j then v else f i
def upI (f : Nat → Int32) (j : Nat) (v : Int32) (i : Nat) : Int32 := if i = j then v else f i
def upJ (f : Nat → Int64) (j : Nat) (v : Int64) (i : Nat) : Int64 := if i = j then v else f i
def upD (f : Nat → UInt64) (j : Nat) (v : UInt64) (i : Nat) : UInt64 := if i = j then v else f i
section ArF
variable {Z : State} {h h' : Heap} {a b : Addr} {ty : FieldType} {n : Nat} {f : Nat → Value} {sl : Nat} {v : Value} {ws : List Addr}
theorem ArF.lt (F : ArF Z h a ty n f) : a < h.size := by obtain ⟨c, A, -⟩ := F; exact A.lt
theorem ArF.ext (F : ArF Z h a ty n f) (E : Ext h h') : ArF Z h' a ty n f := by obtain ⟨c, A, r⟩ := F; exact ⟨c, A.ext E, r⟩
theorem ArF.other (F : ArF Z h b ty n f) (W : Wr h h' a sl v) (q : b ≠ a) : ArF Z h' b ty n f := by obtain ⟨c, A, r⟩ := F; exact ⟨c, A.other W q, r⟩
theorem ArF.keep (F : ArF Z h a ty n f) (K : Keep h h' ws) (q : a ∉ ws) : ArF Z h' a ty n f := by obtain ⟨c, A, r⟩ := F; exact ⟨c, ⟨K.2.1 a c A.1 q, A.2⟩, r⟩
theorem ArF.len (F : ArF Z h a ty n f) : n < 2 ^ 31 := by obtain ⟨c, A, r1, r2, -⟩ := F; exact r2
theorem ArF.fit (F : ArF Z h a ty n f) {i : Nat} (hi : i < n) : fits ty (f i) = true := by obtain ⟨c, A, r1, r2, r3, r4⟩ := F; exact r4 i hi
theorem ArF.congr {g : Nat → Value} (F : ArF Z h a ty n f) (q : ∀ i, i < n → g i = f i) : ArF Z h a ty n g := by
  obtain ⟨c, A, r1, r2, r3, r4⟩ := F
  exact ⟨c, A, r1, r2, fun i hi => by rw [q i hi]; exact r3 i hi, fun i hi => by rw [q i hi]; exact r4 i hi⟩
theorem ArF.new {k : ClassId} {z : Int32} (A : Arr Z h a (newA k ty z) ty) (hn : ¬ z < 0) (hz : z.toNatClampNeg = n) : ArF Z h a ty n (fun _ => defaultValue ty) := by
  subst hz
  refine ⟨_, A, sz_new _ _ _, (back32 hn).2, fun i hi => ?_, fun i hi => by cases ty <;> rfl⟩
  simp [newA, hi]
theorem ArF.set {x : Nat} (F : ArF Z h a ty n f) (hv : fits ty v = true) (W : Wr h h' a x v) : ArF Z h' a ty n (upV f x v) := by
  obtain ⟨c, A, r1, r2, r3, r4⟩ := F
  refine ⟨_, A.same W, by simp [Cell.setSlot, r1], r2, fun i hi => ?_, fun i hi => ?_⟩
  · by_cases e : i = x
    · subst e; simp [upV, Cell.setSlot, r1, hi]
    · simp only [upV, e, if_false, Cell.setSlot]
      rw [Array.getElem?_setIfInBounds_ne (Ne.symm e)]; exact r3 i hi
  · by_cases e : i = x
    · simp [upV, e, hv]
    · simp only [upV, e, if_false]; exact r4 i hi
theorem ArF.arv (F : ArF Z h a ty n f) (d : Value) : ∃ k, Arv Z h a k ty n.toInt32 ((List.range n).map f) d := by
  obtain ⟨c, A, r1, r2, r3, r4⟩ := F
  have hz : (n.toInt32).toInt = n := len_toInt r2
  have hz0 : (0 : Int32).toInt = 0 := rfl
  have hg : ∀ i, i < n → ((List.range n).map f).getD i d = f i := fun i hi => by simp [List.getD, hi]
  refine ⟨c.cls, c, A, rfl, ?_, by rw [Int32.lt_iff_toInt_lt]; omega, fun i hi => ?_, fun i hi => ?_⟩
  · rw [r1, Int32.toNatClampNeg]; omega
  · rw [r1] at hi; rw [hg i hi]; exact r3 i hi
  · rw [r1] at hi; rw [hg i hi]; exact r4 i hi
theorem arF_of_arv {k : ClassId} {z : Int32} {vs : List Value} {d : Value} (F : Arv Z h a k ty z vs d) : ArF Z h a ty z.toNatClampNeg (fun i => vs.getD i d) := by
  obtain ⟨c, A, -, r2, r3, r4, r5⟩ := F
  exact ⟨c, A, r2, (back32 r3).2, fun i hi => r4 i (by rw [r2]; exact hi), fun i hi => r5 i (by rw [r2]; exact hi)⟩
/-- n places of f from sp on, laid over f' from dp on -/
def cpF (f f' : Nat → Value) (sp dp nn : Nat) (i : Nat) : Value := if dp ≤ i ∧ i < dp + nn then f (sp + (i - dp)) else f' i
def cpT {α : Type} (f f' : Nat → α) (sp dp nn : Nat) (i : Nat) : α := if dp ≤ i ∧ i < dp + nn then f (sp + (i - dp)) else f' i
theorem ArF.cpI {g g' : Nat → Int32} {x y z : Nat} (F : ArF Z h a ty n (cpF (fun i => .int (g i)) (fun i => .int (g' i)) x y z)) : ArF Z h a ty n (fun i => .int (cpT g g' x y z i)) := F.congr fun i _ => by simp only [cpF, cpT]; split <;> rfl
theorem ArF.cpJ {g g' : Nat → Int64} {x y z : Nat} (F : ArF Z h a ty n (cpF (fun i => .long (g i)) (fun i => .long (g' i)) x y z)) : ArF Z h a ty n (fun i => .long (cpT g g' x y z i)) := F.congr fun i _ => by simp only [cpF, cpT]; split <;> rfl
theorem ArF.cpD {g g' : Nat → UInt64} {x y z : Nat} (F : ArF Z h a ty n (cpF (fun i => .double (g i)) (fun i => .double (g' i)) x y z)) : ArF Z h a ty n (fun i => .double (cpT g g' x y z i)) := F.congr fun i _ => by simp only [cpF, cpT]; split <;> rfl
theorem nat_idx {j : Int32} {k : Nat} (hj : j.toInt = (k : Int)) : j.toNatClampNeg = k := by simp only [Int32.toNatClampNeg]; omega
theorem in_idx {j : Int32} {k : Nat} {c : Cell} (hj : j.toInt = (k : Int)) (hk : k < n) (e : c.slots.size = n) : ¬ (j < 0 ∨ c.slots.size ≤ j.toNatClampNeg) := by
  rw [nat_idx hj, e, Int32.lt_iff_toInt_lt]
  have : (0 : Int32).toInt = 0 := rfl
  omega
end ArF
section ArrSteps
variable {p : Program} {l : Launch} {e : Env} {R : Room} {s : State} {m : MethodId} {args : Array Value} {below : List Frame} {meth : Method} {c : Code} {T : State} {locs : List Loc} {cells slots : Nat} {Q : Option Value → Heap → List Loc → Prop} {C S : Nat} {Z : State} {a0 : Array Value} {h : Heap} {a : Addr} {n : Nat} {j : Int32} {pc pc' : Nat} {Ls : Array Slot} {rest : List Value}
theorem Go.alen (X : Stand p l e R s m args below meth c T locs cells slots) (hx : p.tables.exec = Jvm.exec) (hZ : Z.Warmed39 s.vm) (eT : T.heap = h) {ty : FieldType} {f : Nat → Value} (F : ArF Z h a ty n f) {z : Int32} (hz : n.toInt32 = z) (hd : decode c.code pc = .ok (.arraylength, 1)) (hp : pc + 1 = pc')
    (kk : Go p.tables e below s Q C S (T.setTop (mkF m pc' Ls (.int z :: rest)))) : Go p.tables e below s Q C S (T.setTop (mkF m pc Ls (.ref a :: rest))) := by
  subst hp hz
  obtain ⟨cl, A, r1, r2, -⟩ := F
  subst r1
  exact Go.of (fun t q => X.arraylength hx (by rw [eT]; exact A.1) (State.isArrayOf_alike hZ.alike A.2.1) (g := mkF m pc Ls (.ref a :: rest)) rfl rfl hd t q) kk
theorem Go.iaload (X : Stand p l e R s m args below meth c T locs cells slots) (hx : p.tables.exec = Jvm.exec) (hZ : Z.Warmed39 s.vm) (eT : T.heap = h) {f : Nat → Int32} (F : ArF Z h a .int n (fun i => .int (f i))) {k : Nat} (hj : j.toInt = (k : Int)) (hk : k < n) {v : Int32} (hv : f k = v) (hd : decode c.code pc = .ok (.iaload, 1)) (hp : pc + 1 = pc')
    (kk : Go p.tables e below s Q C S (T.setTop (mkF m pc' Ls (.int v :: rest)))) : Go p.tables e below s Q C S (T.setTop (mkF m pc Ls (.int j :: .ref a :: rest))) := by
  subst hp hv
  obtain ⟨cl, A, r1, r2, r3, -⟩ := F
  exact Go.of (fun t q => X.iaload hx (j := j) (v := .int (f k)) (by rw [eT]; exact A.1) (State.isArrayOf_alike hZ.alike A.2.1) A.2.2 (in_idx hj hk r1) (by rw [nat_idx hj, r3 _ hk]) (g := mkF m pc Ls (.int j :: .ref a :: rest)) rfl rfl hd t q) kk
theorem Go.laload (X : Stand p l e R s m args below meth c T locs cells slots) (hx : p.tables.exec = Jvm.exec) (hZ : Z.Warmed39 s.vm) (eT : T.heap = h) {f : Nat → Int64} (F : ArF Z h a .long n (fun i => .long (f i))) {k : Nat} (hj : j.toInt = (k : Int)) (hk : k < n) {v : Int64} (hv : f k = v) (hd : decode c.code pc = .ok (.laload, 1)) (hp : pc + 1 = pc')
    (kk : Go p.tables e below s Q C S (T.setTop (mkF m pc' Ls (.long v :: rest)))) : Go p.tables e below s Q C S (T.setTop (mkF m pc Ls (.int j :: .ref a :: rest))) := by
  subst hp hv
  obtain ⟨cl, A, r1, r2, r3, -⟩ := F
  exact Go.of (fun t q => X.laload hx (j := j) (v := .long (f k)) (by rw [eT]; exact A.1) (State.isArrayOf_alike hZ.alike A.2.1) A.2.2 (in_idx hj hk r1) (by rw [nat_idx hj, r3 _ hk]) (g := mkF m pc Ls (.int j :: .ref a :: rest)) rfl rfl hd t q) kk
theorem Go.iastore (X : Stand p l e R s m args below meth c T locs cells slots) (hx : p.tables.exec = Jvm.exec) (hZ : Z.Warmed39 s.vm) (eT : T.heap = h) {f : Nat → Int32} (F : ArF Z h a .int n (fun i => .int (f i))) {x : Int32} {k : Nat} (hj : j.toInt = (k : Int)) (hk : k < n) (hd : decode c.code pc = .ok (.iastore, 1)) (hp : pc + 1 = pc')
    (kk : ∀ T' h', Stand p l e R s m args below meth c T' (locs ++ [⟨a, k⟩]) cells slots → T'.heap = h' → Wr h h' a k (.int x) → ArF Z h' a .int n (fun i => .int (upI f k x i)) → Go p.tables e below s Q C S (T'.setTop (mkF m pc' Ls rest))) : Go p.tables e below s Q C S (T.setTop (mkF m pc Ls (.int x :: .int j :: .ref a :: rest))) := by
  subst hp
  obtain ⟨cl, A, r1, r2, r3, r4⟩ := F
  obtain ⟨T', h', X', e', W, st⟩ := stI X hx hZ eT A (j := j) (in_idx hj hk r1) (g := mkF m pc Ls (.int x :: .int j :: .ref a :: rest)) rfl rfl hd
  rw [nat_idx hj] at X' W
  exact Go.of st (kk T' h' X' e' W ((ArF.set ⟨cl, A, r1, r2, r3, r4⟩ rfl W).congr fun i _ => by simp only [upV, upI]; split <;> rfl))
theorem Go.lastore (X : Stand p l e R s m args below meth c T locs cells slots) (hx : p.tables.exec = Jvm.exec) (hZ : Z.Warmed39 s.vm) (eT : T.heap = h) {f : Nat → Int64} (F : ArF Z h a .long n (fun i => .long (f i))) {x : Int64} {k : Nat} (hj : j.toInt = (k : Int)) (hk : k < n) (hd : decode c.code pc = .ok (.lastore, 1)) (hp : pc + 1 = pc')
    (kk : ∀ T' h', Stand p l e R s m args below meth c T' (locs ++ [⟨a, k⟩]) cells slots → T'.heap = h' → Wr h h' a k (.long x) → ArF Z h' a .long n (fun i => .long (upJ f k x i)) → Go p.tables e below s Q C S (T'.setTop (mkF m pc' Ls rest))) : Go p.tables e below s Q C S (T.setTop (mkF m pc Ls (.long x :: .int j :: .ref a :: rest))) := by
  subst hp
  obtain ⟨cl, A, r1, r2, r3, r4⟩ := F
  obtain ⟨T', h', X', e', W, st⟩ := stJ X hx hZ eT A (j := j) (in_idx hj hk r1) (g := mkF m pc Ls (.long x :: .int j :: .ref a :: rest)) rfl rfl hd
  rw [nat_idx hj] at X' W
  exact Go.of st (kk T' h' X' e' W ((ArF.set ⟨cl, A, r1, r2, r3, r4⟩ rfl W).congr fun i _ => by simp only [upV, upJ]; split <;> rfl))
theorem Go.dastore (X : Stand p l e R s m args below meth c T locs cells slots) (hx : p.tables.exec = Jvm.exec) (hZ : Z.Warmed39 s.vm) (eT : T.heap = h) {f : Nat → UInt64} (F : ArF Z h a .double n (fun i => .double (f i))) {x : UInt64} {k : Nat} (hj : j.toInt = (k : Int)) (hk : k < n) (hd : decode c.code pc = .ok (.dastore, 1)) (hp : pc + 1 = pc')
    (kk : ∀ T' h', Stand p l e R s m args below meth c T' (locs ++ [⟨a, k⟩]) cells slots → T'.heap = h' → Wr h h' a k (.double x) → ArF Z h' a .double n (fun i => .double (upD f k x i)) → Go p.tables e below s Q C S (T'.setTop (mkF m pc' Ls rest))) : Go p.tables e below s Q C S (T.setTop (mkF m pc Ls (.double x :: .int j :: .ref a :: rest))) := by
  subst hp
  obtain ⟨cl, A, r1, r2, r3, r4⟩ := F
  obtain ⟨T', h', X', e', W, st⟩ := stD X hx hZ eT A (j := j) (in_idx hj hk r1) (g := mkF m pc Ls (.double x :: .int j :: .ref a :: rest)) rfl rfl hd
  rw [nat_idx hj] at X' W
  exact Go.of st (kk T' h' X' e' W ((ArF.set ⟨cl, A, r1, r2, r3, r4⟩ rfl W).congr fun i _ => by simp only [upV, upD]; split <;> rfl))
theorem Go.newarr (X : Stand p l e R s m args below meth c T locs cells slots) (hx : p.tables.exec = Jvm.exec) (hZ : Z.Warmed39 s.vm) {aty : ArrayType} {ty : FieldType} (hty : newarray.typeOf aty = ty) (w : (Cond.arrayClass ty).before a0 Z = true) (eT : T.heap = h) {z : Int32} (hn : ¬ z < 0) (hz : z.toNatClampNeg = n) {cap : Nat} (hcap : n ≤ cap) (hb : cap * 8 ≤ 536870912) (hc : cells + 1 ≤ R.cells) (hl : slots + cap ≤ R.slots)
    (hd : decode c.code pc = .ok (.newarray aty, 2)) (hp : pc + 2 = pc')
    (kk : ∀ T' h' b, Stand p l e R s m args below meth c T' locs (cells + 1) (slots + cap) → T'.heap = h' → Ext h h' → b = h.size → ArF Z h' b ty n (fun _ => defaultValue ty) → Go p.tables e below s Q C S (T'.setTop (mkF m pc' Ls (.ref b :: rest)))) : Go p.tables e below s Q C S (T.setTop (mkF m pc Ls (.int z :: rest))) := by
  subst hty hp
  obtain ⟨T', h', cA, X', e', E, A, st⟩ := newP X hx hZ w eT (g := mkF m pc Ls (.int z :: rest)) rfl hd rfl hn (cap := cap) (by omega) hb hc hl
  exact Go.of st (kk T' h' h.size X' e' E rfl (ArF.new A hn hz))
theorem Go.arraycopy (X : Stand p l e R s m args below meth c T locs cells slots) (hx : p.tables.exec = Jvm.exec) (hZ : Z.Warmed39 s.vm) {own : String} {index : Nat} (hown : s.vm.findClass own = some m.cls)
    (w1 : (Cond.methodLink own index Jvm.Stand.acN).before a0 Z = true) (w2 : (Cond.native Jvm.Stand.acN).before a0 Z = true) (w3 : (Cond.static Jvm.Stand.acN).before a0 Z = true) (w4 : (Cond.initialized "java/lang/System").before a0 Z = true) (eT : T.heap = h)
    {ty : FieldType} {b : Addr} {n' : Nat} {f f' : Nat → Value} (A : ArF Z h a ty n f) (B : ArF Z h b ty n' f') (hty : refKind ty = false) {sp dp nn : Int32} {ks kd kn : Nat} (h1 : sp.toInt = (ks : Int)) (h2 : dp.toInt = (kd : Int)) (h3 : nn.toInt = (kn : Int)) (h4 : ks + kn ≤ n) (h5 : kd + kn ≤ n') {n0 : Nat} (N : Fr n0 locs) (ge : n0 ≤ b)
    (hsz : Ls.size = c.maxLocals) (hd : decode c.code pc = .ok (.invokestatic index, 3)) (hp : pc + 3 = pc') (hf : 1 ≤ R.frames) {W : Nat} (hW : (rest.map fun v => v.category).sum = W) (hlo : W + (nativeFrameWords "java/lang/System" "arraycopy" 5 + 11) ≤ R.locals)
    (kk : ∀ T' h' L, Stand p l e R s m args below meth c T' L cells slots → T'.heap = h' → Fr n0 L → Keep h h' [b] → ArF Z h' b ty n' (cpF f f' ks kd kn) → Go p.tables e below s Q C S (T'.setTop (mkF m pc' Ls rest))) : Go p.tables e below s Q C S (T.setTop (mkF m pc Ls (.int nn :: .int dp :: .ref b :: .int sp :: .ref a :: rest))) := by
  subst hp
  obtain ⟨k1, A'⟩ := A.arv (.int 0)
  obtain ⟨k2, B'⟩ := B.arv (.int 0)
  have e1 := nat_idx h1
  have e2 := nat_idx h2
  have e3 := nat_idx h3
  have z0 : (0 : Int32).toInt = 0 := rfl
  have zn : (n.toInt32).toNatClampNeg = n := by have := len_toInt A.len; rw [Int32.toNatClampNeg]; omega
  have zn' : (n'.toInt32).toNatClampNeg = n' := by have := len_toInt B.len; rw [Int32.toNatClampNeg]; omega
  obtain ⟨T', h', L, X', e', N', K, V, st⟩ := cpA X hx hZ hown w1 w2 w3 w4 eT A' B' (Or.inl ⟨rfl, hty⟩) (sp := sp) (dp := dp) (nn := nn) (by rw [Int32.lt_iff_toInt_lt]; omega) (by rw [Int32.lt_iff_toInt_lt]; omega) (by rw [Int32.lt_iff_toInt_lt]; omega) (by rw [e1, e3, zn]; exact h4) (by rw [e2, e3, zn']; exact h5) rfl (by rw [e2, e3]; simpa using h5) N ge (g := mkF m pc Ls (.int nn :: .int dp :: .ref b :: .int sp :: .ref a :: rest)) rfl hsz rfl hd hf (W := W) (by show 2 * 0 + _ ≤ _; rw [hW]; omega) hlo
  refine Go.of st (kk T' h' L X' e' N' K ?_)
  have V2 := arF_of_arv V
  rw [zn'] at V2
  refine V2.congr fun i hi => ?_
  rw [e1, e2, e3]
  simp only [cpF, List.getD]
  by_cases c1 : i < kd
  · rw [if_neg (by omega), List.append_assoc, List.getElem?_append_left (by simp; omega)]
    simp [c1, hi]
  · by_cases c2 : i < kd + kn
    · have c3 : ks + (i - kd) < n := by omega
      have c4 : i - kd < kn := by omega
      rw [if_pos ⟨by omega, c2⟩, List.append_assoc, List.getElem?_append_right (by simp; omega)]
      have c5 : (List.take kd (List.map f' (List.range n'))).length = kd := by simp; omega
      rw [c5, List.getElem?_append_left (by simpa using c4)]
      simp [c4, c3]
    · have c5 : (List.take kd (List.map f' (List.range n')) ++ List.map (fun i => ((List.map f (List.range n))[ks + i]?).getD (Value.int 0)) (List.range kn)).length = kd + kn := by simp; omega
      rw [if_neg (by omega), List.getElem?_append_right (by rw [c5]; omega), c5]
      have c6 : kd + kn + (i - (kd + kn)) = i := by omega
      simp [c6, hi]
end ArrSteps
section Steps1
variable {p : Program} {l : Launch} {e : Env} {R : Room} {s : State} {m : MethodId} {args : Array Value} {below : List Frame} {meth : Method} {c : Code} {T : State} {locs : List Loc} {cells slots : Nat} {Q : Option Value → Heap → List Loc → Prop} {C S : Nat} {bs : ByteArray} {pc pc' : Nat} {Ls : Array Slot} {st : List Value} {Z : State} {a0 : Array Value} {h : Heap} {own : String}
theorem g_iloadN (X : Stand p l e R s m args below meth c T locs cells slots) (hx : p.tables.exec = Jvm.exec) (hby : c.code = bs) {k : Fin 4} {v : Int32} (hd : decode bs pc = .ok (.iload_n k, 1)) (hp : pc + 1 = pc') (hl : Ls[k.val]? = some (.val (.int v))) (kk : Go p.tables e below s Q C S (T.setTop (mkF m pc' Ls (.int v :: st)))) : Go p.tables e below s Q C S (T.setTop (mkF m pc Ls (st))) := by
  subst hp
  exact Go.of (fun _ q => XS.iloadN X.here hx rfl (hb hby hd) hl q) kk
theorem g_iload (X : Stand p l e R s m args below meth c T locs cells slots) (hx : p.tables.exec = Jvm.exec) (hby : c.code = bs) {k : Nat} {v : Int32} (hd : decode bs pc = .ok (.iload k, 2)) (hp : pc + 2 = pc') (hl : Ls[k]? = some (.val (.int v))) (kk : Go p.tables e below s Q C S (T.setTop (mkF m pc' Ls (.int v :: st)))) : Go p.tables e below s Q C S (T.setTop (mkF m pc Ls (st))) := by
  subst hp
  exact Go.of (fun _ q => XS.iload X.here hx rfl (hb hby hd) hl q) kk
theorem g_istoreN (X : Stand p l e R s m args below meth c T locs cells slots) (hx : p.tables.exec = Jvm.exec) (hby : c.code = bs) {k : Fin 4} {v : Int32} {L' : Array Slot} (hd : decode bs pc = .ok (.istore_n k, 1)) (hp : pc + 1 = pc') (hl : storeLocals Ls k.val (.int v) = some L') (kk : Go p.tables e below s Q C S (T.setTop (mkF m pc' L' (st)))) : Go p.tables e below s Q C S (T.setTop (mkF m pc Ls (.int v :: st))) := by
  subst hp
  exact Go.of (fun _ q => XS.istoreN X.here hx rfl (hb hby hd) rfl hl q) kk
theorem g_istore (X : Stand p l e R s m args below meth c T locs cells slots) (hx : p.tables.exec = Jvm.exec) (hby : c.code = bs) {k : Nat} {v : Int32} {L' : Array Slot} (hd : decode bs pc = .ok (.istore k, 2)) (hp : pc + 2 = pc') (hl : storeLocals Ls k (.int v) = some L') (kk : Go p.tables e below s Q C S (T.setTop (mkF m pc' L' (st)))) : Go p.tables e below s Q C S (T.setTop (mkF m pc Ls (.int v :: st))) := by
  subst hp
  exact Go.of (fun _ q => XS.istore X.here hx rfl (hb hby hd) rfl hl q) kk
theorem g_iadd (X : Stand p l e R s m args below meth c T locs cells slots) (hx : p.tables.exec = Jvm.exec) (hby : c.code = bs) {x y z : Int32} (hd : decode bs pc = .ok (.iadd, 1)) (hp : pc + 1 = pc') (hz : x + y = z) (kk : Go p.tables e below s Q C S (T.setTop (mkF m pc' Ls (.int z :: st)))) : Go p.tables e below s Q C S (T.setTop (mkF m pc Ls (.int y :: .int x :: st))) := by
  subst hp; subst hz
  exact Go.of (fun _ q => XS.iadd X.here hx rfl (hb hby hd) rfl q) kk
theorem g_isub (X : Stand p l e R s m args below meth c T locs cells slots) (hx : p.tables.exec = Jvm.exec) (hby : c.code = bs) {x y z : Int32} (hd : decode bs pc = .ok (.isub, 1)) (hp : pc + 1 = pc') (hz : x - y = z) (kk : Go p.tables e below s Q C S (T.setTop (mkF m pc' Ls (.int z :: st)))) : Go p.tables e below s Q C S (T.setTop (mkF m pc Ls (.int y :: .int x :: st))) := by
  subst hp; subst hz
  exact Go.of (fun _ q => XS.isub X.here hx rfl (hb hby hd) rfl q) kk
theorem g_iand (X : Stand p l e R s m args below meth c T locs cells slots) (hx : p.tables.exec = Jvm.exec) (hby : c.code = bs) {x y z : Int32} (hd : decode bs pc = .ok (.iand, 1)) (hp : pc + 1 = pc') (hz : x &&& y = z) (kk : Go p.tables e below s Q C S (T.setTop (mkF m pc' Ls (.int z :: st)))) : Go p.tables e below s Q C S (T.setTop (mkF m pc Ls (.int y :: .int x :: st))) := by
  subst hp; subst hz
  exact Go.of (fun _ q => XS.iand X.here hx rfl (hb hby hd) rfl q) kk
theorem g_lloadN (X : Stand p l e R s m args below meth c T locs cells slots) (hx : p.tables.exec = Jvm.exec) (hby : c.code = bs) {k : Fin 4} {v : Int64} (hd : decode bs pc = .ok (.lload_n k, 1)) (hp : pc + 1 = pc') (hl : Ls[k.val]? = some (.val (.long v))) (kk : Go p.tables e below s Q C S (T.setTop (mkF m pc' Ls (.long v :: st)))) : Go p.tables e below s Q C S (T.setTop (mkF m pc Ls (st))) := by
  subst hp
  exact Go.of (fun _ q => XS.lloadN X.here hx rfl (hb hby hd) hl q) kk
theorem g_ladd (X : Stand p l e R s m args below meth c T locs cells slots) (hx : p.tables.exec = Jvm.exec) (hby : c.code = bs) {x y z : Int64} (hd : decode bs pc = .ok (.ladd, 1)) (hp : pc + 1 = pc') (hz : x + y = z) (kk : Go p.tables e below s Q C S (T.setTop (mkF m pc' Ls (.long z :: st)))) : Go p.tables e below s Q C S (T.setTop (mkF m pc Ls (.long y :: .long x :: st))) := by
  subst hp; subst hz
  exact Go.of (fun _ q => XS.ladd X.here hx rfl (hb hby hd) rfl q) kk
theorem g_lsub (X : Stand p l e R s m args below meth c T locs cells slots) (hx : p.tables.exec = Jvm.exec) (hby : c.code = bs) {x y z : Int64} (hd : decode bs pc = .ok (.lsub, 1)) (hp : pc + 1 = pc') (hz : x - y = z) (kk : Go p.tables e below s Q C S (T.setTop (mkF m pc' Ls (.long z :: st)))) : Go p.tables e below s Q C S (T.setTop (mkF m pc Ls (.long y :: .long x :: st))) := by
  subst hp; subst hz
  exact Go.of (fun _ q => XS.lsub X.here hx rfl (hb hby hd) rfl q) kk
theorem g_lmul (X : Stand p l e R s m args below meth c T locs cells slots) (hx : p.tables.exec = Jvm.exec) (hby : c.code = bs) {x y z : Int64} (hd : decode bs pc = .ok (.lmul, 1)) (hp : pc + 1 = pc') (hz : x * y = z) (kk : Go p.tables e below s Q C S (T.setTop (mkF m pc' Ls (.long z :: st)))) : Go p.tables e below s Q C S (T.setTop (mkF m pc Ls (.long y :: .long x :: st))) := by
  subst hp; subst hz
  exact Go.of (fun _ q => XS.lmul X.here hx rfl (hb hby hd) rfl q) kk
theorem g_dloadN (X : Stand p l e R s m args below meth c T locs cells slots) (hx : p.tables.exec = Jvm.exec) (hby : c.code = bs) {k : Fin 4} {v : UInt64} (hd : decode bs pc = .ok (.dload_n k, 1)) (hp : pc + 1 = pc') (hl : Ls[k.val]? = some (.val (.double v))) (kk : Go p.tables e below s Q C S (T.setTop (mkF m pc' Ls (.double v :: st)))) : Go p.tables e below s Q C S (T.setTop (mkF m pc Ls (st))) := by
  subst hp
  exact Go.of (fun _ q => XS.dloadN X.here hx rfl (hb hby hd) hl q) kk
theorem g_irem (X : Stand p l e R s m args below meth c T locs cells slots) (hx : p.tables.exec = Jvm.exec) (hby : c.code = bs) {x y z : Int32} (hd : decode bs pc = .ok (.irem, 1)) (hp : pc + 1 = pc') (hy : y ≠ 0) (hz : x % y = z) (kk : Go p.tables e below s Q C S (T.setTop (mkF m pc' Ls (.int z :: st)))) : Go p.tables e below s Q C S (T.setTop (mkF m pc Ls (.int y :: .int x :: st))) := by
  subst hp; subst hz
  exact Go.of (fun _ q => XS.irem X.here hx rfl (hb hby hd) rfl hy (by rw [irem_mod]; exact q)) kk
theorem g_i2l (X : Stand p l e R s m args below meth c T locs cells slots) (hx : p.tables.exec = Jvm.exec) (hby : c.code = bs) {x : Int32} {z : Int64} (hd : decode bs pc = .ok (.i2l, 1)) (hp : pc + 1 = pc') (hz : x.toInt64 = z) (kk : Go p.tables e below s Q C S (T.setTop (mkF m pc' Ls (.long z :: st)))) : Go p.tables e below s Q C S (T.setTop (mkF m pc Ls (.int x :: st))) := by
  subst hp; subst hz
  exact Go.of (fun _ q => XS.i2l X.here hx rfl (hb hby hd) rfl q) kk
theorem g_l2i (X : Stand p l e R s m args below meth c T locs cells slots) (hx : p.tables.exec = Jvm.exec) (hby : c.code = bs) {x : Int64} {z : Int32} (hd : decode bs pc = .ok (.l2i, 1)) (hp : pc + 1 = pc') (hz : x.toInt32 = z) (kk : Go p.tables e below s Q C S (T.setTop (mkF m pc' Ls (.int z :: st)))) : Go p.tables e below s Q C S (T.setTop (mkF m pc Ls (.long x :: st))) := by
  subst hp; subst hz
  exact Go.of (fun _ q => XS.l2i X.here hx rfl (hb hby hd) rfl q) kk
theorem g_lcmp (X : Stand p l e R s m args below meth c T locs cells slots) (hx : p.tables.exec = Jvm.exec) (hby : c.code = bs) {x y : Int64} (hd : decode bs pc = .ok (.lcmp, 1)) (hp : pc + 1 = pc')  (kk : Go p.tables e below s Q C S (T.setTop (mkF m pc' Ls (.int (lcmpW x y) :: st)))) : Go p.tables e below s Q C S (T.setTop (mkF m pc Ls (.long y :: .long x :: st))) := by
  subst hp
  exact Go.of (fun _ q => XS.lcmp X.here hx rfl (hb hby hd) rfl q) kk
theorem g_aloadN (X : Stand p l e R s m args below meth c T locs cells slots) (hx : p.tables.exec = Jvm.exec) (hby : c.code = bs) {k : Fin 4} {v : Value} (hd : decode bs pc = .ok (.aload_n k, 1)) (hp : pc + 1 = pc') (hl : Ls[k.val]? = some (.val v)) (hr : v.isRef = true) (kk : Go p.tables e below s Q C S (T.setTop (mkF m pc' Ls (v :: st)))) : Go p.tables e below s Q C S (T.setTop (mkF m pc Ls (st))) := by
  subst hp
  exact Go.of (fun _ q => XS.aloadN X.here hx rfl (hb hby hd) hl hr q) kk
theorem g_aload (X : Stand p l e R s m args below meth c T locs cells slots) (hx : p.tables.exec = Jvm.exec) (hby : c.code = bs) {k : Nat} {v : Value} (hd : decode bs pc = .ok (.aload k, 2)) (hp : pc + 2 = pc') (hl : Ls[k]? = some (.val v)) (hr : v.isRef = true) (kk : Go p.tables e below s Q C S (T.setTop (mkF m pc' Ls (v :: st)))) : Go p.tables e below s Q C S (T.setTop (mkF m pc Ls (st))) := by
  subst hp
  exact Go.of (fun _ q => XS.aload X.here hx rfl (hb hby hd) hl hr q) kk
theorem g_astoreN (X : Stand p l e R s m args below meth c T locs cells slots) (hx : p.tables.exec = Jvm.exec) (hby : c.code = bs) {k : Fin 4} {v : Value} {L' : Array Slot} (hd : decode bs pc = .ok (.astore_n k, 1)) (hp : pc + 1 = pc') (hr : v.isRef = true) (hl : storeLocals Ls k.val v = some L') (kk : Go p.tables e below s Q C S (T.setTop (mkF m pc' L' (st)))) : Go p.tables e below s Q C S (T.setTop (mkF m pc Ls (v :: st))) := by
  subst hp
  exact Go.of (fun _ q => XS.astoreN X.here hx rfl (hb hby hd) rfl hr hl q) kk
theorem g_astore (X : Stand p l e R s m args below meth c T locs cells slots) (hx : p.tables.exec = Jvm.exec) (hby : c.code = bs) {k : Nat} {v : Value} {L' : Array Slot} (hd : decode bs pc = .ok (.astore k, 2)) (hp : pc + 2 = pc') (hr : v.isRef = true) (hl : storeLocals Ls k v = some L') (kk : Go p.tables e below s Q C S (T.setTop (mkF m pc' L' (st)))) : Go p.tables e below s Q C S (T.setTop (mkF m pc Ls (v :: st))) := by
  subst hp
  exact Go.of (fun _ q => XS.astore X.here hx rfl (hb hby hd) rfl hr hl q) kk
theorem g_iconst (X : Stand p l e R s m args below meth c T locs cells slots) (hx : p.tables.exec = Jvm.exec) (hby : c.code = bs) {i : Int} {z : Int32} (hd : decode bs pc = .ok (.iconst i, 1)) (hp : pc + 1 = pc') (hz : Int32.ofInt i = z) (kk : Go p.tables e below s Q C S (T.setTop (mkF m pc' Ls (.int z :: st)))) : Go p.tables e below s Q C S (T.setTop (mkF m pc Ls (st))) := by
  subst hp; subst hz
  exact Go.of (fun _ q => XS.iconst X.here hx rfl (hb hby hd) q) kk
theorem g_bipush (X : Stand p l e R s m args below meth c T locs cells slots) (hx : p.tables.exec = Jvm.exec) (hby : c.code = bs) {i : Int} {z : Int32} (hd : decode bs pc = .ok (.bipush i, 2)) (hp : pc + 2 = pc') (hz : (Int8.ofInt i).toInt32 = z) (kk : Go p.tables e below s Q C S (T.setTop (mkF m pc' Ls (.int z :: st)))) : Go p.tables e below s Q C S (T.setTop (mkF m pc Ls (st))) := by
  subst hp; subst hz
  exact Go.of (fun _ q => XS.bipush X.here hx rfl (hb hby hd) q) kk
theorem g_aconst_null (X : Stand p l e R s m args below meth c T locs cells slots) (hx : p.tables.exec = Jvm.exec) (hby : c.code = bs)  (hd : decode bs pc = .ok (.aconst_null, 1)) (hp : pc + 1 = pc')  (kk : Go p.tables e below s Q C S (T.setTop (mkF m pc' Ls (.null :: st)))) : Go p.tables e below s Q C S (T.setTop (mkF m pc Ls (st))) := by
  subst hp
  exact Go.of (fun _ q => XS.aconstNull X.here hx rfl (hb hby hd) q) kk
theorem g_iinc (X : Stand p l e R s m args below meth c T locs cells slots) (hx : p.tables.exec = Jvm.exec) (hby : c.code = bs) {k : Nat} {i : Int} {x : Int32} {L' : Array Slot} (hd : decode bs pc = .ok (.iinc k i, 3)) (hp : pc + 3 = pc') (hl : Ls[k]? = some (.val (.int x))) (hl' : storeLocals Ls k (.int (x + Int32.ofInt i)) = some L') (kk : Go p.tables e below s Q C S (T.setTop (mkF m pc' L' (st)))) : Go p.tables e below s Q C S (T.setTop (mkF m pc Ls (st))) := by
  subst hp
  exact Go.of (fun _ q => XS.iinc X.here hx rfl (hb hby hd) hl hl' q) kk
theorem g_dup (X : Stand p l e R s m args below meth c T locs cells slots) (hx : p.tables.exec = Jvm.exec) (hby : c.code = bs) {v : Value} (hd : decode bs pc = .ok (.dup, 1)) (hp : pc + 1 = pc') (hc : v.category = 1) (kk : Go p.tables e below s Q C S (T.setTop (mkF m pc' Ls (v :: v :: st)))) : Go p.tables e below s Q C S (T.setTop (mkF m pc Ls (v :: st))) := by
  subst hp
  exact Go.of (fun _ q => XS.dup X.here hx rfl (hb hby hd) rfl hc q) kk
theorem g_pop (X : Stand p l e R s m args below meth c T locs cells slots) (hx : p.tables.exec = Jvm.exec) (hby : c.code = bs) {v : Value} (hd : decode bs pc = .ok (.pop, 1)) (hp : pc + 1 = pc') (hc : v.category = 1) (kk : Go p.tables e below s Q C S (T.setTop (mkF m pc' Ls (st)))) : Go p.tables e below s Q C S (T.setTop (mkF m pc Ls (v :: st))) := by
  subst hp
  exact Go.of (fun _ q => XS.pop X.here hx rfl (hb hby hd) rfl hc q) kk
theorem g_goto (X : Stand p l e R s m args below meth c T locs cells slots) (hx : p.tables.exec = Jvm.exec) (hby : c.code = bs) {o : Int} (hd : decode bs pc = .ok (.goto o, 3)) (h0 : 0 ≤ (pc : Int) + o) (hp : ((pc : Int) + o).toNat = pc') (kk : Go p.tables e below s Q C S (T.setTop (mkF m pc' Ls st))) : Go p.tables e below s Q C S (T.setTop (mkF m pc Ls st)) :=
  Go.of (fun _ q => XS.goto X.here hx rfl (pc0 := pc) (pc' := pc') rfl (hb hby hd) h0 hp q) kk
theorem g_ifYes (X : Stand p l e R s m args below meth c T locs cells slots) (hx : p.tables.exec = Jvm.exec) (hby : c.code = bs) {cd : ClassFile.Cond} {x : Int32} {o : Int} (hd : decode bs pc = .ok (.ifCond cd o, 3)) (hc : if_icmp.holds cd x 0 = true) (h0 : 0 ≤ (pc : Int) + o) (hp : ((pc : Int) + o).toNat = pc') (kk : Go p.tables e below s Q C S (T.setTop (mkF m pc' Ls st))) : Go p.tables e below s Q C S (T.setTop (mkF m pc Ls (.int x :: st))) :=
  Go.of (fun _ q => XS.ifYes X.here hx rfl (pc0 := pc) (pc' := pc') rfl (hb hby hd) rfl ((if0 _ _).trans hc) h0 hp q) kk
theorem g_ifNo (X : Stand p l e R s m args below meth c T locs cells slots) (hx : p.tables.exec = Jvm.exec) (hby : c.code = bs) {cd : ClassFile.Cond} {x : Int32} {o : Int} (hd : decode bs pc = .ok (.ifCond cd o, 3)) (hc : if_icmp.holds cd x 0 = false) (hp : pc + 3 = pc') (kk : Go p.tables e below s Q C S (T.setTop (mkF m pc' Ls st))) : Go p.tables e below s Q C S (T.setTop (mkF m pc Ls (.int x :: st))) := by
  subst hp
  exact Go.of (fun _ q => XS.ifNo X.here hx rfl (hb hby hd) rfl ((if0 _ _).trans hc) q) kk
theorem g_icmpYes (X : Stand p l e R s m args below meth c T locs cells slots) (hx : p.tables.exec = Jvm.exec) (hby : c.code = bs) {cd : ClassFile.Cond} {x y : Int32} {o : Int} (hd : decode bs pc = .ok (.if_icmp cd o, 3)) (hc : if_icmp.holds cd x y = true) (h0 : 0 ≤ (pc : Int) + o) (hp : ((pc : Int) + o).toNat = pc') (kk : Go p.tables e below s Q C S (T.setTop (mkF m pc' Ls st))) : Go p.tables e below s Q C S (T.setTop (mkF m pc Ls (.int y :: .int x :: st))) :=
  Go.of (fun _ q => XS.icmpYes X.here hx rfl (pc0 := pc) (pc' := pc') rfl (hb hby hd) rfl hc h0 hp q) kk
theorem g_icmpNo (X : Stand p l e R s m args below meth c T locs cells slots) (hx : p.tables.exec = Jvm.exec) (hby : c.code = bs) {cd : ClassFile.Cond} {x y : Int32} {o : Int} (hd : decode bs pc = .ok (.if_icmp cd o, 3)) (hc : if_icmp.holds cd x y = false) (hp : pc + 3 = pc') (kk : Go p.tables e below s Q C S (T.setTop (mkF m pc' Ls st))) : Go p.tables e below s Q C S (T.setTop (mkF m pc Ls (.int y :: .int x :: st))) := by
  subst hp
  exact Go.of (fun _ q => XS.icmpNo X.here hx rfl (hb hby hd) rfl hc q) kk
theorem g_ldcI (X : Stand p l e R s m args below meth c T locs cells slots) (hx : p.tables.exec = Jvm.exec) (hby : c.code = bs) (hZ : Z.Warmed39 s.vm) (hown : s.vm.findClass own = some m.cls) {i : Nat} {z : Int32} (w : (Cond.constant own i z).before a0 Z = true) (hd : decode bs pc = .ok (.ldc i, 2)) (hp : pc + 2 = pc') (kk : Go p.tables e below s Q C S (T.setTop (mkF m pc' Ls (.int z :: st)))) : Go p.tables e below s Q C S (T.setTop (mkF m pc Ls st)) := by
  subst hp
  exact Go.of (fun _ q => X.ldcInt hx hown (mvT hZ w) (g := mkF m pc Ls st) rfl (hb hby hd) _ q) kk
theorem g_ldcL (X : Stand p l e R s m args below meth c T locs cells slots) (hx : p.tables.exec = Jvm.exec) (hby : c.code = bs) (hZ : Z.Warmed39 s.vm) (hown : s.vm.findClass own = some m.cls) {i : Nat} {z : Int64} (w : (Cond.constantLong own i z).before a0 Z = true) (hd : decode bs pc = .ok (.ldc2_w i, 3)) (hp : pc + 3 = pc') (kk : Go p.tables e below s Q C S (T.setTop (mkF m pc' Ls (.long z :: st)))) : Go p.tables e below s Q C S (T.setTop (mkF m pc Ls st)) := by
  subst hp
  exact Go.of (fun _ q => X.ldc2Long hx hown (mvT hZ w) (g := mkF m pc Ls st) rfl (hb hby hd) _ q) kk
theorem g_getf (X : Stand p l e R s m args below meth c T locs cells slots) (hx : p.tables.exec = Jvm.exec) (hby : c.code = bs) (hZ : Z.Warmed39 s.vm) {R0 O n d host : String} {i : Nat} (hown : s.vm.findClass own = some m.cls) (w : (Cond.fieldLink own i R0 n d).before a0 Z = true ∨ (Cond.fieldLinkNest own i R0 n d host).before a0 Z = true) (via : Via Z R0 O n d) (eT : T.heap = h) {a : Addr} {v : Value} (F : Fld Z h a O n d v) (hd : decode bs pc = .ok (.getfield i, 3)) (hp : pc + 3 = pc') (kk : ∀ T', Stand p l e R s m args below meth c T' locs cells slots → T'.heap = h → Go p.tables e below s Q C S (T'.setTop (mkF m pc' Ls (v :: st)))) : Go p.tables e below s Q C S (T.setTop (mkF m pc Ls (.ref a :: st))) := by
  subst hp
  obtain ⟨T', X', e', q⟩ := getF X hx hZ hown w via eT F (g := mkF m pc Ls (.ref a :: st)) rfl rfl (hb hby hd)
  exact Go.of q (kk T' X' e')
theorem g_putf (X : Stand p l e R s m args below meth c T locs cells slots) (hx : p.tables.exec = Jvm.exec) (hby : c.code = bs) (hZ : Z.Warmed39 s.vm) {R0 O n d host : String} {i : Nat} (hown : s.vm.findClass own = some m.cls) (w : (Cond.fieldLink own i R0 n d).before a0 Z = true ∨ (Cond.fieldLinkNest own i R0 n d host).before a0 Z = true) (via : Via Z R0 O n d) (eT : T.heap = h) {a : Addr} {v old : Value} {K : String} {kk' : Nat} {ty : FieldType} (F : Fld Z h a O n d old) (E : Exa Z h a K) (L : (Cond.lays K O n d).before a0 Z = true ∨ ((Cond.laysFinal K O n d).before a0 Z = true ∧ own = O ∧ meth.name = "<init>")) (wi : (Cond.instantiable K kk').before a0 Z = true) (hty : parseFieldDescriptor d = some ty) (hn : narrow ty v = v) (hf : fits ty v = true) (hd : decode bs pc = .ok (.putfield i, 3)) (hp : pc + 3 = pc')
    (kk : ∀ T' h', Stand p l e R s m args below meth c T' (locs ++ [⟨a, Jvm.RoadKit.slotOf Z O n d⟩]) cells slots → T'.heap = h' → Wr h h' a (Jvm.RoadKit.slotOf Z O n d) v → Fld Z h' a O n d v → Go p.tables e below s Q C S (T'.setTop (mkF m pc' Ls st))) : Go p.tables e below s Q C S (T.setTop (mkF m pc Ls (v :: .ref a :: st))) := by
  subst hp
  obtain ⟨T', h', X', e', W, q⟩ := putF X hx hZ hown w via eT F E L wi hty hn hf (g := mkF m pc Ls (v :: .ref a :: st)) rfl rfl (hb hby hd)
  exact Go.of q (kk T' h' X' e' W (F.same W))
theorem g_new (X : Stand p l e R s m args below meth c T locs cells slots) (hx : p.tables.exec = Jvm.exec) (hby : c.code = bs) (hZ : Z.Warmed39 s.vm) {K : String} {i n : Nat} (hown : s.vm.findClass own = some m.cls) (w : (Cond.classLink own i K).before a0 Z = true) (wi : (Cond.instantiable K n).before a0 Z = true) (wz : (Cond.initialized K).before a0 Z = true) (eT : T.heap = h) (hd : decode bs pc = .ok (.new i, 3)) (hp : pc + 3 = pc') (hc : cells + 1 ≤ R.cells) (hl : slots + n ≤ R.slots)
    (kk : ∀ T' h' b, Stand p l e R s m args below meth c T' locs (cells + 1) (slots + n) → T'.heap = h' → Ext h h' → b = h.size → Exa Z h' b K → (∀ {O nm d : String} {ty : FieldType}, Laid Z a0 K O nm d → parseFieldDescriptor d = some ty → Fld Z h' b O nm d (defaultValue ty)) → Go p.tables e below s Q C S (T'.setTop (mkF m pc' Ls (.ref b :: st)))) : Go p.tables e below s Q C S (T.setTop (mkF m pc Ls st)) := by
  subst hp
  obtain ⟨T', h', X', e', E, A, D, -, q⟩ := newO X hx hZ hown w wi wz eT (g := mkF m pc Ls st) rfl (hb hby hd) hc hl
  exact Go.of q (kk T' h' h.size X' e' E rfl A D)
theorem g_init (X : Stand p l e R s m args below meth c T locs cells slots) (hx : p.tables.exec = Jvm.exec) (hby : c.code = bs) (hZ : Z.Warmed39 s.vm) {i : Nat} (hown : s.vm.findClass own = some m.cls) (w1 : (Cond.methodLink own i Lib.objectInit).before a0 Z = true) (w2 : (Cond.instanceMethod Lib.objectInit).before a0 Z = true) (w3 : (Cond.code Lib.objectInit ⟨#[0xb1]⟩ 1 none).before a0 Z = true) (eT : T.heap = h) {a : Addr} {W : Nat} (hsz : Ls.size = c.maxLocals) (hd : decode bs pc = .ok (.invokespecial i, 3)) (hp : pc + 3 = pc') (hf : 1 ≤ R.frames) (hW : (st.map fun v => v.category).sum = W) (hl : W + 12 ≤ R.locals) (kk : ∀ T', Stand p l e R s m args below meth c T' locs cells slots → T'.heap = h → Go p.tables e below s Q C S (T'.setTop (mkF m pc' Ls st))) : Go p.tables e below s Q C S (T.setTop (mkF m pc Ls (.ref a :: st))) := by
  subst hp
  obtain ⟨T', X', e', q⟩ := initO X hx hZ hown w1 w2 w3 eT (g := mkF m pc Ls (.ref a :: st)) rfl hsz rfl (hb hby hd) hf (W := W) (by show 2 * 0 + _ ≤ _; rw [hW]; omega) hl
  exact Go.of q (kk T' X' e')
end Steps1
end Jvm.OwnKit
namespace Jvm.Pilot.@@N@@
open Jvm Jvm.ClassFile Sem Op Lib Jvm.Free Jvm.Stand Jvm.LawKit Jvm.RoadKit Jvm.OwnKit Bundle Jvm.Pilot.@@N@@.Jvm.D
theorem wi {a0 : Array Value} {Z : State} (hw : ∀ d ∈ tables_1, d.before a0 Z = true) {d : Jvm.Cond} (i : Nat) (h : tables_1[i]? = some d) : d.before a0 Z = true := hw d (List.mem_of_getElem? h)
abbrev kES : String := "com/example/edgewise/edgewise/EdgeSlots"
def own_l (l : List Int32) (i : Nat) : Int32 := l.getD i 0
def own_lj (l : List Int64) (i : Nat) : Int64 := l.getD i 0
theorem d1_0 : decode prog_12_method_1_code 0 = .ok (.aload_n 0, 1) := by decide +kernel
theorem d1_1 : decode prog_12_method_1_code 1 = .ok (.invokespecial 1, 3) := by decide +kernel
theorem d1_4 : decode prog_12_method_1_code 4 = .ok (.aload_n 0, 1) := by decide +kernel
theorem d1_5 : decode prog_12_method_1_code 5 = .ok (.iconst 0, 1) := by decide +kernel
theorem d1_6 : decode prog_12_method_1_code 6 = .ok (.newarray .int, 2) := by decide +kernel
theorem d1_8 : decode prog_12_method_1_code 8 = .ok (.putfield 7, 3) := by decide +kernel
theorem d1_11 : decode prog_12_method_1_code 11 = .ok (.aload_n 0, 1) := by decide +kernel
theorem d1_12 : decode prog_12_method_1_code 12 = .ok (.iconst 0, 1) := by decide +kernel
theorem d1_13 : decode prog_12_method_1_code 13 = .ok (.newarray .int, 2) := by decide +kernel
theorem d1_15 : decode prog_12_method_1_code 15 = .ok (.putfield 13, 3) := by decide +kernel
theorem sn0 {a0 : Array Value} {Z : State} (hw : ∀ d ∈ tables_1, d.before a0 Z = true) : Jvm.RoadKit.slotOf Z kES "targets" "[I" ≠ Jvm.RoadKit.slotOf Z kES "sources" "[I" := slot_ne (Or.inl (wi hw 16 rfl)) (Or.inl (wi hw 14 rfl)) (by decide) (t := (.array .int)) (t' := (.array .int)) (by decide) (by decide)
theorem d1_18 : decode prog_12_method_1_code 18 = .ok (.aload_n 0, 1) := by decide +kernel
theorem d1_19 : decode prog_12_method_1_code 19 = .ok (.iconst 0, 1) := by decide +kernel
theorem d1_20 : decode prog_12_method_1_code 20 = .ok (.newarray .int, 2) := by decide +kernel
theorem d1_22 : decode prog_12_method_1_code 22 = .ok (.putfield 16, 3) := by decide +kernel
theorem sn1 {a0 : Array Value} {Z : State} (hw : ∀ d ∈ tables_1, d.before a0 Z = true) : Jvm.RoadKit.slotOf Z kES "sourcePositions" "[I" ≠ Jvm.RoadKit.slotOf Z kES "sources" "[I" := slot_ne (Or.inl (wi hw 18 rfl)) (Or.inl (wi hw 14 rfl)) (by decide) (t := (.array .int)) (t' := (.array .int)) (by decide) (by decide)
theorem sn2 {a0 : Array Value} {Z : State} (hw : ∀ d ∈ tables_1, d.before a0 Z = true) : Jvm.RoadKit.slotOf Z kES "sourcePositions" "[I" ≠ Jvm.RoadKit.slotOf Z kES "targets" "[I" := slot_ne (Or.inl (wi hw 18 rfl)) (Or.inl (wi hw 16 rfl)) (by decide) (t := (.array .int)) (t' := (.array .int)) (by decide) (by decide)
theorem d1_25 : decode prog_12_method_1_code 25 = .ok (.aload_n 0, 1) := by decide +kernel
theorem d1_26 : decode prog_12_method_1_code 26 = .ok (.iconst 0, 1) := by decide +kernel
theorem d1_27 : decode prog_12_method_1_code 27 = .ok (.newarray .int, 2) := by decide +kernel
theorem d1_29 : decode prog_12_method_1_code 29 = .ok (.putfield 19, 3) := by decide +kernel
theorem sn3 {a0 : Array Value} {Z : State} (hw : ∀ d ∈ tables_1, d.before a0 Z = true) : Jvm.RoadKit.slotOf Z kES "targetPositions" "[I" ≠ Jvm.RoadKit.slotOf Z kES "sources" "[I" := slot_ne (Or.inl (wi hw 20 rfl)) (Or.inl (wi hw 14 rfl)) (by decide) (t := (.array .int)) (t' := (.array .int)) (by decide) (by decide)
theorem sn4 {a0 : Array Value} {Z : State} (hw : ∀ d ∈ tables_1, d.before a0 Z = true) : Jvm.RoadKit.slotOf Z kES "targetPositions" "[I" ≠ Jvm.RoadKit.slotOf Z kES "targets" "[I" := slot_ne (Or.inl (wi hw 20 rfl)) (Or.inl (wi hw 16 rfl)) (by decide) (t := (.array .int)) (t' := (.array .int)) (by decide) (by decide)
theorem sn5 {a0 : Array Value} {Z : State} (hw : ∀ d ∈ tables_1, d.before a0 Z = true) : Jvm.RoadKit.slotOf Z kES "targetPositions" "[I" ≠ Jvm.RoadKit.slotOf Z kES "sourcePositions" "[I" := slot_ne (Or.inl (wi hw 20 rfl)) (Or.inl (wi hw 18 rfl)) (by decide) (t := (.array .int)) (t' := (.array .int)) (by decide) (by decide)
theorem d1_32 : decode prog_12_method_1_code 32 = .ok (.aload_n 0, 1) := by decide +kernel
theorem d1_33 : decode prog_12_method_1_code 33 = .ok (.iconst 0, 1) := by decide +kernel
theorem d1_34 : decode prog_12_method_1_code 34 = .ok (.newarray .double, 2) := by decide +kernel
theorem d1_36 : decode prog_12_method_1_code 36 = .ok (.putfield 22, 3) := by decide +kernel
theorem sn6 {a0 : Array Value} {Z : State} (hw : ∀ d ∈ tables_1, d.before a0 Z = true) : Jvm.RoadKit.slotOf Z kES "weights" "[D" ≠ Jvm.RoadKit.slotOf Z kES "sources" "[I" := slot_ne (Or.inl (wi hw 23 rfl)) (Or.inl (wi hw 14 rfl)) (by decide) (t := (.array .double)) (t' := (.array .int)) (by decide) (by decide)
theorem sn7 {a0 : Array Value} {Z : State} (hw : ∀ d ∈ tables_1, d.before a0 Z = true) : Jvm.RoadKit.slotOf Z kES "weights" "[D" ≠ Jvm.RoadKit.slotOf Z kES "targets" "[I" := slot_ne (Or.inl (wi hw 23 rfl)) (Or.inl (wi hw 16 rfl)) (by decide) (t := (.array .double)) (t' := (.array .int)) (by decide) (by decide)
theorem sn8 {a0 : Array Value} {Z : State} (hw : ∀ d ∈ tables_1, d.before a0 Z = true) : Jvm.RoadKit.slotOf Z kES "weights" "[D" ≠ Jvm.RoadKit.slotOf Z kES "sourcePositions" "[I" := slot_ne (Or.inl (wi hw 23 rfl)) (Or.inl (wi hw 18 rfl)) (by decide) (t := (.array .double)) (t' := (.array .int)) (by decide) (by decide)
theorem sn9 {a0 : Array Value} {Z : State} (hw : ∀ d ∈ tables_1, d.before a0 Z = true) : Jvm.RoadKit.slotOf Z kES "weights" "[D" ≠ Jvm.RoadKit.slotOf Z kES "targetPositions" "[I" := slot_ne (Or.inl (wi hw 23 rfl)) (Or.inl (wi hw 20 rfl)) (by decide) (t := (.array .double)) (t' := (.array .int)) (by decide) (by decide)
theorem d1_39 : decode prog_12_method_1_code 39 = .ok (.aload_n 0, 1) := by decide +kernel
theorem d1_40 : decode prog_12_method_1_code 40 = .ok (.iconst 0, 1) := by decide +kernel
theorem d1_41 : decode prog_12_method_1_code 41 = .ok (.newarray .int, 2) := by decide +kernel
theorem d1_43 : decode prog_12_method_1_code 43 = .ok (.putfield 26, 3) := by decide +kernel
theorem sn10 {a0 : Array Value} {Z : State} (hw : ∀ d ∈ tables_1, d.before a0 Z = true) : Jvm.RoadKit.slotOf Z kES "keys" "[I" ≠ Jvm.RoadKit.slotOf Z kES "sources" "[I" := slot_ne (Or.inl (wi hw 25 rfl)) (Or.inl (wi hw 14 rfl)) (by decide) (t := (.array .int)) (t' := (.array .int)) (by decide) (by decide)
theorem sn11 {a0 : Array Value} {Z : State} (hw : ∀ d ∈ tables_1, d.before a0 Z = true) : Jvm.RoadKit.slotOf Z kES "keys" "[I" ≠ Jvm.RoadKit.slotOf Z kES "targets" "[I" := slot_ne (Or.inl (wi hw 25 rfl)) (Or.inl (wi hw 16 rfl)) (by decide) (t := (.array .int)) (t' := (.array .int)) (by decide) (by decide)
theorem sn12 {a0 : Array Value} {Z : State} (hw : ∀ d ∈ tables_1, d.before a0 Z = true) : Jvm.RoadKit.slotOf Z kES "keys" "[I" ≠ Jvm.RoadKit.slotOf Z kES "sourcePositions" "[I" := slot_ne (Or.inl (wi hw 25 rfl)) (Or.inl (wi hw 18 rfl)) (by decide) (t := (.array .int)) (t' := (.array .int)) (by decide) (by decide)
theorem sn13 {a0 : Array Value} {Z : State} (hw : ∀ d ∈ tables_1, d.before a0 Z = true) : Jvm.RoadKit.slotOf Z kES "keys" "[I" ≠ Jvm.RoadKit.slotOf Z kES "targetPositions" "[I" := slot_ne (Or.inl (wi hw 25 rfl)) (Or.inl (wi hw 20 rfl)) (by decide) (t := (.array .int)) (t' := (.array .int)) (by decide) (by decide)
theorem sn14 {a0 : Array Value} {Z : State} (hw : ∀ d ∈ tables_1, d.before a0 Z = true) : Jvm.RoadKit.slotOf Z kES "keys" "[I" ≠ Jvm.RoadKit.slotOf Z kES "weights" "[D" := slot_ne (Or.inl (wi hw 25 rfl)) (Or.inl (wi hw 23 rfl)) (by decide) (t := (.array .int)) (t' := (.array .double)) (by decide) (by decide)
theorem d1_46 : decode prog_12_method_1_code 46 = .ok (.aload_n 0, 1) := by decide +kernel
theorem d1_47 : decode prog_12_method_1_code 47 = .ok (.iconst 0, 1) := by decide +kernel
theorem d1_48 : decode prog_12_method_1_code 48 = .ok (.newarray .long, 2) := by decide +kernel
theorem d1_50 : decode prog_12_method_1_code 50 = .ok (.putfield 29, 3) := by decide +kernel
theorem sn15 {a0 : Array Value} {Z : State} (hw : ∀ d ∈ tables_1, d.before a0 Z = true) : Jvm.RoadKit.slotOf Z kES "keptNumbers" "[J" ≠ Jvm.RoadKit.slotOf Z kES "sources" "[I" := slot_ne (Or.inl (wi hw 27 rfl)) (Or.inl (wi hw 14 rfl)) (by decide) (t := (.array .long)) (t' := (.array .int)) (by decide) (by decide)
theorem sn16 {a0 : Array Value} {Z : State} (hw : ∀ d ∈ tables_1, d.before a0 Z = true) : Jvm.RoadKit.slotOf Z kES "keptNumbers" "[J" ≠ Jvm.RoadKit.slotOf Z kES "targets" "[I" := slot_ne (Or.inl (wi hw 27 rfl)) (Or.inl (wi hw 16 rfl)) (by decide) (t := (.array .long)) (t' := (.array .int)) (by decide) (by decide)
theorem sn17 {a0 : Array Value} {Z : State} (hw : ∀ d ∈ tables_1, d.before a0 Z = true) : Jvm.RoadKit.slotOf Z kES "keptNumbers" "[J" ≠ Jvm.RoadKit.slotOf Z kES "sourcePositions" "[I" := slot_ne (Or.inl (wi hw 27 rfl)) (Or.inl (wi hw 18 rfl)) (by decide) (t := (.array .long)) (t' := (.array .int)) (by decide) (by decide)
theorem sn18 {a0 : Array Value} {Z : State} (hw : ∀ d ∈ tables_1, d.before a0 Z = true) : Jvm.RoadKit.slotOf Z kES "keptNumbers" "[J" ≠ Jvm.RoadKit.slotOf Z kES "targetPositions" "[I" := slot_ne (Or.inl (wi hw 27 rfl)) (Or.inl (wi hw 20 rfl)) (by decide) (t := (.array .long)) (t' := (.array .int)) (by decide) (by decide)
theorem sn19 {a0 : Array Value} {Z : State} (hw : ∀ d ∈ tables_1, d.before a0 Z = true) : Jvm.RoadKit.slotOf Z kES "keptNumbers" "[J" ≠ Jvm.RoadKit.slotOf Z kES "weights" "[D" := slot_ne (Or.inl (wi hw 27 rfl)) (Or.inl (wi hw 23 rfl)) (by decide) (t := (.array .long)) (t' := (.array .double)) (by decide) (by decide)
theorem sn20 {a0 : Array Value} {Z : State} (hw : ∀ d ∈ tables_1, d.before a0 Z = true) : Jvm.RoadKit.slotOf Z kES "keptNumbers" "[J" ≠ Jvm.RoadKit.slotOf Z kES "keys" "[I" := slot_ne (Or.inl (wi hw 27 rfl)) (Or.inl (wi hw 25 rfl)) (by decide) (t := (.array .long)) (t' := (.array .int)) (by decide) (by decide)
theorem d1_53 : decode prog_12_method_1_code 53 = .ok (.aload_n 0, 1) := by decide +kernel
theorem d1_54 : decode prog_12_method_1_code 54 = .ok (.iload_n 1, 1) := by decide +kernel
theorem d1_55 : decode prog_12_method_1_code 55 = .ok (.putfield 33, 3) := by decide +kernel
theorem sn21 {a0 : Array Value} {Z : State} (hw : ∀ d ∈ tables_1, d.before a0 Z = true) : Jvm.RoadKit.slotOf Z kES "keyed" "Z" ≠ Jvm.RoadKit.slotOf Z kES "sources" "[I" := slot_ne (Or.inr (wi hw 29 rfl)) (Or.inl (wi hw 14 rfl)) (by decide) (t := .boolean) (t' := (.array .int)) (by decide) (by decide)
theorem sn22 {a0 : Array Value} {Z : State} (hw : ∀ d ∈ tables_1, d.before a0 Z = true) : Jvm.RoadKit.slotOf Z kES "keyed" "Z" ≠ Jvm.RoadKit.slotOf Z kES "targets" "[I" := slot_ne (Or.inr (wi hw 29 rfl)) (Or.inl (wi hw 16 rfl)) (by decide) (t := .boolean) (t' := (.array .int)) (by decide) (by decide)
theorem sn23 {a0 : Array Value} {Z : State} (hw : ∀ d ∈ tables_1, d.before a0 Z = true) : Jvm.RoadKit.slotOf Z kES "keyed" "Z" ≠ Jvm.RoadKit.slotOf Z kES "sourcePositions" "[I" := slot_ne (Or.inr (wi hw 29 rfl)) (Or.inl (wi hw 18 rfl)) (by decide) (t := .boolean) (t' := (.array .int)) (by decide) (by decide)
theorem sn24 {a0 : Array Value} {Z : State} (hw : ∀ d ∈ tables_1, d.before a0 Z = true) : Jvm.RoadKit.slotOf Z kES "keyed" "Z" ≠ Jvm.RoadKit.slotOf Z kES "targetPositions" "[I" := slot_ne (Or.inr (wi hw 29 rfl)) (Or.inl (wi hw 20 rfl)) (by decide) (t := .boolean) (t' := (.array .int)) (by decide) (by decide)
theorem sn25 {a0 : Array Value} {Z : State} (hw : ∀ d ∈ tables_1, d.before a0 Z = true) : Jvm.RoadKit.slotOf Z kES "keyed" "Z" ≠ Jvm.RoadKit.slotOf Z kES "weights" "[D" := slot_ne (Or.inr (wi hw 29 rfl)) (Or.inl (wi hw 23 rfl)) (by decide) (t := .boolean) (t' := (.array .double)) (by decide) (by decide)
theorem sn26 {a0 : Array Value} {Z : State} (hw : ∀ d ∈ tables_1, d.before a0 Z = true) : Jvm.RoadKit.slotOf Z kES "keyed" "Z" ≠ Jvm.RoadKit.slotOf Z kES "keys" "[I" := slot_ne (Or.inr (wi hw 29 rfl)) (Or.inl (wi hw 25 rfl)) (by decide) (t := .boolean) (t' := (.array .int)) (by decide) (by decide)
theorem sn27 {a0 : Array Value} {Z : State} (hw : ∀ d ∈ tables_1, d.before a0 Z = true) : Jvm.RoadKit.slotOf Z kES "keyed" "Z" ≠ Jvm.RoadKit.slotOf Z kES "keptNumbers" "[J" := slot_ne (Or.inr (wi hw 29 rfl)) (Or.inl (wi hw 27 rfl)) (by decide) (t := .boolean) (t' := (.array .long)) (by decide) (by decide)
theorem d1_58 : decode prog_12_method_1_code 58 = .ok (.return_, 1) := by decide +kernel
theorem sn28 {a0 : Array Value} {Z : State} (hw : ∀ d ∈ tables_1, d.before a0 Z = true) : Jvm.RoadKit.slotOf Z kES "sources" "[I" ≠ Jvm.RoadKit.slotOf Z kES "targets" "[I" := slot_ne (Or.inl (wi hw 14 rfl)) (Or.inl (wi hw 16 rfl)) (by decide) (t := (.array .int)) (t' := (.array .int)) (by decide) (by decide)
theorem sn29 {a0 : Array Value} {Z : State} (hw : ∀ d ∈ tables_1, d.before a0 Z = true) : Jvm.RoadKit.slotOf Z kES "sources" "[I" ≠ Jvm.RoadKit.slotOf Z kES "sourcePositions" "[I" := slot_ne (Or.inl (wi hw 14 rfl)) (Or.inl (wi hw 18 rfl)) (by decide) (t := (.array .int)) (t' := (.array .int)) (by decide) (by decide)
theorem sn30 {a0 : Array Value} {Z : State} (hw : ∀ d ∈ tables_1, d.before a0 Z = true) : Jvm.RoadKit.slotOf Z kES "sources" "[I" ≠ Jvm.RoadKit.slotOf Z kES "targetPositions" "[I" := slot_ne (Or.inl (wi hw 14 rfl)) (Or.inl (wi hw 20 rfl)) (by decide) (t := (.array .int)) (t' := (.array .int)) (by decide) (by decide)
theorem sn31 {a0 : Array Value} {Z : State} (hw : ∀ d ∈ tables_1, d.before a0 Z = true) : Jvm.RoadKit.slotOf Z kES "sources" "[I" ≠ Jvm.RoadKit.slotOf Z kES "weights" "[D" := slot_ne (Or.inl (wi hw 14 rfl)) (Or.inl (wi hw 23 rfl)) (by decide) (t := (.array .int)) (t' := (.array .double)) (by decide) (by decide)
theorem sn32 {a0 : Array Value} {Z : State} (hw : ∀ d ∈ tables_1, d.before a0 Z = true) : Jvm.RoadKit.slotOf Z kES "sources" "[I" ≠ Jvm.RoadKit.slotOf Z kES "keys" "[I" := slot_ne (Or.inl (wi hw 14 rfl)) (Or.inl (wi hw 25 rfl)) (by decide) (t := (.array .int)) (t' := (.array .int)) (by decide) (by decide)
theorem sn33 {a0 : Array Value} {Z : State} (hw : ∀ d ∈ tables_1, d.before a0 Z = true) : Jvm.RoadKit.slotOf Z kES "sources" "[I" ≠ Jvm.RoadKit.slotOf Z kES "keptNumbers" "[J" := slot_ne (Or.inl (wi hw 14 rfl)) (Or.inl (wi hw 27 rfl)) (by decide) (t := (.array .int)) (t' := (.array .long)) (by decide) (by decide)
theorem sn34 {a0 : Array Value} {Z : State} (hw : ∀ d ∈ tables_1, d.before a0 Z = true) : Jvm.RoadKit.slotOf Z kES "sources" "[I" ≠ Jvm.RoadKit.slotOf Z kES "keyed" "Z" := slot_ne (Or.inl (wi hw 14 rfl)) (Or.inr (wi hw 29 rfl)) (by decide) (t := (.array .int)) (t' := .boolean) (by decide) (by decide)
theorem sn35 {a0 : Array Value} {Z : State} (hw : ∀ d ∈ tables_1, d.before a0 Z = true) : Jvm.RoadKit.slotOf Z kES "targets" "[I" ≠ Jvm.RoadKit.slotOf Z kES "sourcePositions" "[I" := slot_ne (Or.inl (wi hw 16 rfl)) (Or.inl (wi hw 18 rfl)) (by decide) (t := (.array .int)) (t' := (.array .int)) (by decide) (by decide)
theorem sn36 {a0 : Array Value} {Z : State} (hw : ∀ d ∈ tables_1, d.before a0 Z = true) : Jvm.RoadKit.slotOf Z kES "targets" "[I" ≠ Jvm.RoadKit.slotOf Z kES "targetPositions" "[I" := slot_ne (Or.inl (wi hw 16 rfl)) (Or.inl (wi hw 20 rfl)) (by decide) (t := (.array .int)) (t' := (.array .int)) (by decide) (by decide)
theorem sn37 {a0 : Array Value} {Z : State} (hw : ∀ d ∈ tables_1, d.before a0 Z = true) : Jvm.RoadKit.slotOf Z kES "targets" "[I" ≠ Jvm.RoadKit.slotOf Z kES "weights" "[D" := slot_ne (Or.inl (wi hw 16 rfl)) (Or.inl (wi hw 23 rfl)) (by decide) (t := (.array .int)) (t' := (.array .double)) (by decide) (by decide)
theorem sn38 {a0 : Array Value} {Z : State} (hw : ∀ d ∈ tables_1, d.before a0 Z = true) : Jvm.RoadKit.slotOf Z kES "targets" "[I" ≠ Jvm.RoadKit.slotOf Z kES "keys" "[I" := slot_ne (Or.inl (wi hw 16 rfl)) (Or.inl (wi hw 25 rfl)) (by decide) (t := (.array .int)) (t' := (.array .int)) (by decide) (by decide)
theorem sn39 {a0 : Array Value} {Z : State} (hw : ∀ d ∈ tables_1, d.before a0 Z = true) : Jvm.RoadKit.slotOf Z kES "targets" "[I" ≠ Jvm.RoadKit.slotOf Z kES "keptNumbers" "[J" := slot_ne (Or.inl (wi hw 16 rfl)) (Or.inl (wi hw 27 rfl)) (by decide) (t := (.array .int)) (t' := (.array .long)) (by decide) (by decide)
theorem sn40 {a0 : Array Value} {Z : State} (hw : ∀ d ∈ tables_1, d.before a0 Z = true) : Jvm.RoadKit.slotOf Z kES "targets" "[I" ≠ Jvm.RoadKit.slotOf Z kES "keyed" "Z" := slot_ne (Or.inl (wi hw 16 rfl)) (Or.inr (wi hw 29 rfl)) (by decide) (t := (.array .int)) (t' := .boolean) (by decide) (by decide)
theorem sn41 {a0 : Array Value} {Z : State} (hw : ∀ d ∈ tables_1, d.before a0 Z = true) : Jvm.RoadKit.slotOf Z kES "sourcePositions" "[I" ≠ Jvm.RoadKit.slotOf Z kES "targetPositions" "[I" := slot_ne (Or.inl (wi hw 18 rfl)) (Or.inl (wi hw 20 rfl)) (by decide) (t := (.array .int)) (t' := (.array .int)) (by decide) (by decide)
theorem sn42 {a0 : Array Value} {Z : State} (hw : ∀ d ∈ tables_1, d.before a0 Z = true) : Jvm.RoadKit.slotOf Z kES "sourcePositions" "[I" ≠ Jvm.RoadKit.slotOf Z kES "weights" "[D" := slot_ne (Or.inl (wi hw 18 rfl)) (Or.inl (wi hw 23 rfl)) (by decide) (t := (.array .int)) (t' := (.array .double)) (by decide) (by decide)
theorem sn43 {a0 : Array Value} {Z : State} (hw : ∀ d ∈ tables_1, d.before a0 Z = true) : Jvm.RoadKit.slotOf Z kES "sourcePositions" "[I" ≠ Jvm.RoadKit.slotOf Z kES "keys" "[I" := slot_ne (Or.inl (wi hw 18 rfl)) (Or.inl (wi hw 25 rfl)) (by decide) (t := (.array .int)) (t' := (.array .int)) (by decide) (by decide)
theorem sn44 {a0 : Array Value} {Z : State} (hw : ∀ d ∈ tables_1, d.before a0 Z = true) : Jvm.RoadKit.slotOf Z kES "sourcePositions" "[I" ≠ Jvm.RoadKit.slotOf Z kES "keptNumbers" "[J" := slot_ne (Or.inl (wi hw 18 rfl)) (Or.inl (wi hw 27 rfl)) (by decide) (t := (.array .int)) (t' := (.array .long)) (by decide) (by decide)
theorem sn45 {a0 : Array Value} {Z : State} (hw : ∀ d ∈ tables_1, d.before a0 Z = true) : Jvm.RoadKit.slotOf Z kES "sourcePositions" "[I" ≠ Jvm.RoadKit.slotOf Z kES "keyed" "Z" := slot_ne (Or.inl (wi hw 18 rfl)) (Or.inr (wi hw 29 rfl)) (by decide) (t := (.array .int)) (t' := .boolean) (by decide) (by decide)
theorem sn46 {a0 : Array Value} {Z : State} (hw : ∀ d ∈ tables_1, d.before a0 Z = true) : Jvm.RoadKit.slotOf Z kES "targetPositions" "[I" ≠ Jvm.RoadKit.slotOf Z kES "weights" "[D" := slot_ne (Or.inl (wi hw 20 rfl)) (Or.inl (wi hw 23 rfl)) (by decide) (t := (.array .int)) (t' := (.array .double)) (by decide) (by decide)
theorem sn47 {a0 : Array Value} {Z : State} (hw : ∀ d ∈ tables_1, d.before a0 Z = true) : Jvm.RoadKit.slotOf Z kES "targetPositions" "[I" ≠ Jvm.RoadKit.slotOf Z kES "keys" "[I" := slot_ne (Or.inl (wi hw 20 rfl)) (Or.inl (wi hw 25 rfl)) (by decide) (t := (.array .int)) (t' := (.array .int)) (by decide) (by decide)
theorem sn48 {a0 : Array Value} {Z : State} (hw : ∀ d ∈ tables_1, d.before a0 Z = true) : Jvm.RoadKit.slotOf Z kES "targetPositions" "[I" ≠ Jvm.RoadKit.slotOf Z kES "keptNumbers" "[J" := slot_ne (Or.inl (wi hw 20 rfl)) (Or.inl (wi hw 27 rfl)) (by decide) (t := (.array .int)) (t' := (.array .long)) (by decide) (by decide)
theorem sn49 {a0 : Array Value} {Z : State} (hw : ∀ d ∈ tables_1, d.before a0 Z = true) : Jvm.RoadKit.slotOf Z kES "targetPositions" "[I" ≠ Jvm.RoadKit.slotOf Z kES "keyed" "Z" := slot_ne (Or.inl (wi hw 20 rfl)) (Or.inr (wi hw 29 rfl)) (by decide) (t := (.array .int)) (t' := .boolean) (by decide) (by decide)
theorem sn50 {a0 : Array Value} {Z : State} (hw : ∀ d ∈ tables_1, d.before a0 Z = true) : Jvm.RoadKit.slotOf Z kES "weights" "[D" ≠ Jvm.RoadKit.slotOf Z kES "keys" "[I" := slot_ne (Or.inl (wi hw 23 rfl)) (Or.inl (wi hw 25 rfl)) (by decide) (t := (.array .double)) (t' := (.array .int)) (by decide) (by decide)
theorem sn51 {a0 : Array Value} {Z : State} (hw : ∀ d ∈ tables_1, d.before a0 Z = true) : Jvm.RoadKit.slotOf Z kES "weights" "[D" ≠ Jvm.RoadKit.slotOf Z kES "keptNumbers" "[J" := slot_ne (Or.inl (wi hw 23 rfl)) (Or.inl (wi hw 27 rfl)) (by decide) (t := (.array .double)) (t' := (.array .long)) (by decide) (by decide)
theorem sn52 {a0 : Array Value} {Z : State} (hw : ∀ d ∈ tables_1, d.before a0 Z = true) : Jvm.RoadKit.slotOf Z kES "weights" "[D" ≠ Jvm.RoadKit.slotOf Z kES "keyed" "Z" := slot_ne (Or.inl (wi hw 23 rfl)) (Or.inr (wi hw 29 rfl)) (by decide) (t := (.array .double)) (t' := .boolean) (by decide) (by decide)
theorem sn53 {a0 : Array Value} {Z : State} (hw : ∀ d ∈ tables_1, d.before a0 Z = true) : Jvm.RoadKit.slotOf Z kES "keys" "[I" ≠ Jvm.RoadKit.slotOf Z kES "keptNumbers" "[J" := slot_ne (Or.inl (wi hw 25 rfl)) (Or.inl (wi hw 27 rfl)) (by decide) (t := (.array .int)) (t' := (.array .long)) (by decide) (by decide)
theorem sn54 {a0 : Array Value} {Z : State} (hw : ∀ d ∈ tables_1, d.before a0 Z = true) : Jvm.RoadKit.slotOf Z kES "keys" "[I" ≠ Jvm.RoadKit.slotOf Z kES "keyed" "Z" := slot_ne (Or.inl (wi hw 25 rfl)) (Or.inr (wi hw 29 rfl)) (by decide) (t := (.array .int)) (t' := .boolean) (by decide) (by decide)
theorem sn55 {a0 : Array Value} {Z : State} (hw : ∀ d ∈ tables_1, d.before a0 Z = true) : Jvm.RoadKit.slotOf Z kES "keptNumbers" "[J" ≠ Jvm.RoadKit.slotOf Z kES "keyed" "Z" := slot_ne (Or.inl (wi hw 27 rfl)) (Or.inr (wi hw 29 rfl)) (by decide) (t := (.array .long)) (t' := .boolean) (by decide) (by decide)
theorem sn56 {a0 : Array Value} {Z : State} (hw : ∀ d ∈ tables_1, d.before a0 Z = true) : Jvm.RoadKit.slotOf Z kES "bound" "I" ≠ Jvm.RoadKit.slotOf Z kES "sources" "[I" := slot_ne (Or.inl (wi hw 36 rfl)) (Or.inl (wi hw 14 rfl)) (by decide) (t := .int) (t' := (.array .int)) (by decide) (by decide)
theorem sn57 {a0 : Array Value} {Z : State} (hw : ∀ d ∈ tables_1, d.before a0 Z = true) : Jvm.RoadKit.slotOf Z kES "bound" "I" ≠ Jvm.RoadKit.slotOf Z kES "targets" "[I" := slot_ne (Or.inl (wi hw 36 rfl)) (Or.inl (wi hw 16 rfl)) (by decide) (t := .int) (t' := (.array .int)) (by decide) (by decide)
theorem sn58 {a0 : Array Value} {Z : State} (hw : ∀ d ∈ tables_1, d.before a0 Z = true) : Jvm.RoadKit.slotOf Z kES "bound" "I" ≠ Jvm.RoadKit.slotOf Z kES "sourcePositions" "[I" := slot_ne (Or.inl (wi hw 36 rfl)) (Or.inl (wi hw 18 rfl)) (by decide) (t := .int) (t' := (.array .int)) (by decide) (by decide)
theorem sn59 {a0 : Array Value} {Z : State} (hw : ∀ d ∈ tables_1, d.before a0 Z = true) : Jvm.RoadKit.slotOf Z kES "bound" "I" ≠ Jvm.RoadKit.slotOf Z kES "targetPositions" "[I" := slot_ne (Or.inl (wi hw 36 rfl)) (Or.inl (wi hw 20 rfl)) (by decide) (t := .int) (t' := (.array .int)) (by decide) (by decide)
theorem sn60 {a0 : Array Value} {Z : State} (hw : ∀ d ∈ tables_1, d.before a0 Z = true) : Jvm.RoadKit.slotOf Z kES "bound" "I" ≠ Jvm.RoadKit.slotOf Z kES "weights" "[D" := slot_ne (Or.inl (wi hw 36 rfl)) (Or.inl (wi hw 23 rfl)) (by decide) (t := .int) (t' := (.array .double)) (by decide) (by decide)
theorem sn61 {a0 : Array Value} {Z : State} (hw : ∀ d ∈ tables_1, d.before a0 Z = true) : Jvm.RoadKit.slotOf Z kES "bound" "I" ≠ Jvm.RoadKit.slotOf Z kES "keys" "[I" := slot_ne (Or.inl (wi hw 36 rfl)) (Or.inl (wi hw 25 rfl)) (by decide) (t := .int) (t' := (.array .int)) (by decide) (by decide)
theorem sn62 {a0 : Array Value} {Z : State} (hw : ∀ d ∈ tables_1, d.before a0 Z = true) : Jvm.RoadKit.slotOf Z kES "bound" "I" ≠ Jvm.RoadKit.slotOf Z kES "keptNumbers" "[J" := slot_ne (Or.inl (wi hw 36 rfl)) (Or.inl (wi hw 27 rfl)) (by decide) (t := .int) (t' := (.array .long)) (by decide) (by decide)
theorem sn63 {a0 : Array Value} {Z : State} (hw : ∀ d ∈ tables_1, d.before a0 Z = true) : Jvm.RoadKit.slotOf Z kES "bound" "I" ≠ Jvm.RoadKit.slotOf Z kES "keyed" "Z" := slot_ne (Or.inl (wi hw 36 rfl)) (Or.inr (wi hw 29 rfl)) (by decide) (t := .int) (t' := .boolean) (by decide) (by decide)
theorem sn64 {a0 : Array Value} {Z : State} (hw : ∀ d ∈ tables_1, d.before a0 Z = true) : Jvm.RoadKit.slotOf Z kES "count" "I" ≠ Jvm.RoadKit.slotOf Z kES "sources" "[I" := slot_ne (Or.inl (wi hw 71 rfl)) (Or.inl (wi hw 14 rfl)) (by decide) (t := .int) (t' := (.array .int)) (by decide) (by decide)
theorem sn65 {a0 : Array Value} {Z : State} (hw : ∀ d ∈ tables_1, d.before a0 Z = true) : Jvm.RoadKit.slotOf Z kES "count" "I" ≠ Jvm.RoadKit.slotOf Z kES "targets" "[I" := slot_ne (Or.inl (wi hw 71 rfl)) (Or.inl (wi hw 16 rfl)) (by decide) (t := .int) (t' := (.array .int)) (by decide) (by decide)
theorem sn66 {a0 : Array Value} {Z : State} (hw : ∀ d ∈ tables_1, d.before a0 Z = true) : Jvm.RoadKit.slotOf Z kES "count" "I" ≠ Jvm.RoadKit.slotOf Z kES "sourcePositions" "[I" := slot_ne (Or.inl (wi hw 71 rfl)) (Or.inl (wi hw 18 rfl)) (by decide) (t := .int) (t' := (.array .int)) (by decide) (by decide)
theorem sn67 {a0 : Array Value} {Z : State} (hw : ∀ d ∈ tables_1, d.before a0 Z = true) : Jvm.RoadKit.slotOf Z kES "count" "I" ≠ Jvm.RoadKit.slotOf Z kES "targetPositions" "[I" := slot_ne (Or.inl (wi hw 71 rfl)) (Or.inl (wi hw 20 rfl)) (by decide) (t := .int) (t' := (.array .int)) (by decide) (by decide)
theorem sn68 {a0 : Array Value} {Z : State} (hw : ∀ d ∈ tables_1, d.before a0 Z = true) : Jvm.RoadKit.slotOf Z kES "count" "I" ≠ Jvm.RoadKit.slotOf Z kES "weights" "[D" := slot_ne (Or.inl (wi hw 71 rfl)) (Or.inl (wi hw 23 rfl)) (by decide) (t := .int) (t' := (.array .double)) (by decide) (by decide)
theorem sn69 {a0 : Array Value} {Z : State} (hw : ∀ d ∈ tables_1, d.before a0 Z = true) : Jvm.RoadKit.slotOf Z kES "count" "I" ≠ Jvm.RoadKit.slotOf Z kES "keys" "[I" := slot_ne (Or.inl (wi hw 71 rfl)) (Or.inl (wi hw 25 rfl)) (by decide) (t := .int) (t' := (.array .int)) (by decide) (by decide)
theorem sn70 {a0 : Array Value} {Z : State} (hw : ∀ d ∈ tables_1, d.before a0 Z = true) : Jvm.RoadKit.slotOf Z kES "count" "I" ≠ Jvm.RoadKit.slotOf Z kES "keptNumbers" "[J" := slot_ne (Or.inl (wi hw 71 rfl)) (Or.inl (wi hw 27 rfl)) (by decide) (t := .int) (t' := (.array .long)) (by decide) (by decide)
theorem sn71 {a0 : Array Value} {Z : State} (hw : ∀ d ∈ tables_1, d.before a0 Z = true) : Jvm.RoadKit.slotOf Z kES "count" "I" ≠ Jvm.RoadKit.slotOf Z kES "keyed" "Z" := slot_ne (Or.inl (wi hw 71 rfl)) (Or.inr (wi hw 29 rfl)) (by decide) (t := .int) (t' := .boolean) (by decide) (by decide)
theorem sn72 {a0 : Array Value} {Z : State} (hw : ∀ d ∈ tables_1, d.before a0 Z = true) : Jvm.RoadKit.slotOf Z kES "nextNumber" "J" ≠ Jvm.RoadKit.slotOf Z kES "sources" "[I" := slot_ne (Or.inl (wi hw 73 rfl)) (Or.inl (wi hw 14 rfl)) (by decide) (t := .long) (t' := (.array .int)) (by decide) (by decide)
theorem sn73 {a0 : Array Value} {Z : State} (hw : ∀ d ∈ tables_1, d.before a0 Z = true) : Jvm.RoadKit.slotOf Z kES "nextNumber" "J" ≠ Jvm.RoadKit.slotOf Z kES "targets" "[I" := slot_ne (Or.inl (wi hw 73 rfl)) (Or.inl (wi hw 16 rfl)) (by decide) (t := .long) (t' := (.array .int)) (by decide) (by decide)
theorem sn74 {a0 : Array Value} {Z : State} (hw : ∀ d ∈ tables_1, d.before a0 Z = true) : Jvm.RoadKit.slotOf Z kES "nextNumber" "J" ≠ Jvm.RoadKit.slotOf Z kES "sourcePositions" "[I" := slot_ne (Or.inl (wi hw 73 rfl)) (Or.inl (wi hw 18 rfl)) (by decide) (t := .long) (t' := (.array .int)) (by decide) (by decide)
theorem sn75 {a0 : Array Value} {Z : State} (hw : ∀ d ∈ tables_1, d.before a0 Z = true) : Jvm.RoadKit.slotOf Z kES "nextNumber" "J" ≠ Jvm.RoadKit.slotOf Z kES "targetPositions" "[I" := slot_ne (Or.inl (wi hw 73 rfl)) (Or.inl (wi hw 20 rfl)) (by decide) (t := .long) (t' := (.array .int)) (by decide) (by decide)
theorem sn76 {a0 : Array Value} {Z : State} (hw : ∀ d ∈ tables_1, d.before a0 Z = true) : Jvm.RoadKit.slotOf Z kES "nextNumber" "J" ≠ Jvm.RoadKit.slotOf Z kES "weights" "[D" := slot_ne (Or.inl (wi hw 73 rfl)) (Or.inl (wi hw 23 rfl)) (by decide) (t := .long) (t' := (.array .double)) (by decide) (by decide)
theorem sn77 {a0 : Array Value} {Z : State} (hw : ∀ d ∈ tables_1, d.before a0 Z = true) : Jvm.RoadKit.slotOf Z kES "nextNumber" "J" ≠ Jvm.RoadKit.slotOf Z kES "keys" "[I" := slot_ne (Or.inl (wi hw 73 rfl)) (Or.inl (wi hw 25 rfl)) (by decide) (t := .long) (t' := (.array .int)) (by decide) (by decide)
theorem sn78 {a0 : Array Value} {Z : State} (hw : ∀ d ∈ tables_1, d.before a0 Z = true) : Jvm.RoadKit.slotOf Z kES "nextNumber" "J" ≠ Jvm.RoadKit.slotOf Z kES "keptNumbers" "[J" := slot_ne (Or.inl (wi hw 73 rfl)) (Or.inl (wi hw 27 rfl)) (by decide) (t := .long) (t' := (.array .long)) (by decide) (by decide)
theorem sn79 {a0 : Array Value} {Z : State} (hw : ∀ d ∈ tables_1, d.before a0 Z = true) : Jvm.RoadKit.slotOf Z kES "nextNumber" "J" ≠ Jvm.RoadKit.slotOf Z kES "keyed" "Z" := slot_ne (Or.inl (wi hw 73 rfl)) (Or.inr (wi hw 29 rfl)) (by decide) (t := .long) (t' := .boolean) (by decide) (by decide)
theorem ef_rm_init0 (m : MethodId) (x0 : Addr) : entryFrame m #[(.ref x0), (.int (0 : Int32))] 2 = mkF m 0 #[.val (.ref x0), .val (.int (0 : Int32))] [] := by first | (simp [entryFrame, mkF, argsToLocals, Value.category]; done) | rfl
theorem pn_com_example_edgewise_edgewise_EdgeSlots : plainName "com/example/edgewise/edgewise/EdgeSlots" = true := by first | (simp [plainName, overriddenIn]; done) | decide +kernel
abbrev Q_rm_init0 (Z : State) (a1 : Addr) (h0 : Heap) (n0 : Nat) : Option Value → Heap → List Loc → Prop := fun v h L => ∃ (b1 : Addr) (b2 : Addr) (b3 : Addr) (b4 : Addr) (b5 : Addr) (b6 : Addr) (b7 : Addr), v = none ∧ Fr n0 L ∧ Keep h0 h [a1] ∧ n0 ≤ b1 ∧ h0.size ≤ b1 ∧ n0 ≤ b2 ∧ h0.size ≤ b2 ∧ n0 ≤ b3 ∧ h0.size ≤ b3 ∧ n0 ≤ b4 ∧ h0.size ≤ b4 ∧ n0 ≤ b5 ∧ h0.size ≤ b5 ∧ n0 ≤ b6 ∧ h0.size ≤ b6 ∧ n0 ≤ b7 ∧ h0.size ≤ b7 ∧ b1 ≠ b2 ∧ b1 ≠ b3 ∧ b1 ≠ b4 ∧ b1 ≠ b5 ∧ b1 ≠ b6 ∧ b1 ≠ b7 ∧ b2 ≠ b3 ∧ b2 ≠ b4 ∧ b2 ≠ b5 ∧ b2 ≠ b6 ∧ b2 ≠ b7 ∧ b3 ≠ b4 ∧ b3 ≠ b5 ∧ b3 ≠ b6 ∧ b3 ≠ b7 ∧ b4 ≠ b5 ∧ b4 ≠ b6 ∧ b4 ≠ b7 ∧ b5 ≠ b6 ∧ b5 ≠ b7 ∧ b6 ≠ b7 ∧ Fld Z h a1 kES "sources" "[I" (.ref b1) ∧ Fld Z h a1 kES "targets" "[I" (.ref b2) ∧ Fld Z h a1 kES "sourcePositions" "[I" (.ref b3) ∧ Fld Z h a1 kES "targetPositions" "[I" (.ref b4) ∧ Fld Z h a1 kES "weights" "[D" (.ref b5) ∧ Fld Z h a1 kES "keys" "[I" (.ref b6) ∧ Fld Z h a1 kES "keptNumbers" "[J" (.ref b7) ∧ Fld Z h a1 kES "keyed" "Z" (.int (0 : Int32)) ∧ Fld Z h a1 kES "bound" "I" (.int (0 : Int32)) ∧ Fld Z h a1 kES "count" "I" (.int (0 : Int32)) ∧ Fld Z h a1 kES "nextNumber" "J" (.long (0 : Int64)) ∧ ArF Z h b1 .int 0 (fun i => .int ((fun _ => (0 : Int32)) i)) ∧ ArF Z h b2 .int 0 (fun i => .int ((fun _ => (0 : Int32)) i)) ∧ ArF Z h b3 .int 0 (fun i => .int ((fun _ => (0 : Int32)) i)) ∧ ArF Z h b4 .int 0 (fun i => .int ((fun _ => (0 : Int32)) i)) ∧ ArF Z h b5 .double 0 (fun i => .double ((fun _ => (0 : UInt64)) i)) ∧ ArF Z h b6 .int 0 (fun i => .int ((fun _ => (0 : Int32)) i)) ∧ ArF Z h b7 .long 0 (fun i => .long ((fun _ => (0 : Int64)) i))
set_option maxRecDepth 65536 in
set_option maxHeartbeats 40000000 in
theorem rm_init0 (l : Launch) (Z : State) (a0 : Array Value) (hw : ∀ d ∈ tables_1, d.before a0 Z = true) (a1 : Addr) (h0 : Heap) (n0 : Nat) (Z0 : n0 ≤ h0.size) (P0 : Exa Z h0 a1 kES) (P1 : Fld Z h0 a1 kES "sources" "[I" .null) (P2 : Fld Z h0 a1 kES "targets" "[I" .null) (P3 : Fld Z h0 a1 kES "sourcePositions" "[I" .null) (P4 : Fld Z h0 a1 kES "targetPositions" "[I" .null) (P5 : Fld Z h0 a1 kES "weights" "[D" .null) (P6 : Fld Z h0 a1 kES "keys" "[I" .null) (P7 : Fld Z h0 a1 kES "keptNumbers" "[J" .null) (P8 : Fld Z h0 a1 kES "keyed" "Z" (.int (0 : Int32))) (P9 : Fld Z h0 a1 kES "bound" "I" (.int (0 : Int32))) (P10 : Fld Z h0 a1 kES "count" "I" (.int (0 : Int32))) (P11 : Fld Z h0 a1 kES "nextNumber" "J" (.long (0 : Int64))) (ge_a1 : n0 ≤ a1) :
    Con l Z (⟨"com/example/edgewise/edgewise/EdgeSlots", "<init>", "(Z)V"⟩ : MethodName) prog_12_method_1_code 2 none ({ frames := 1, cells := 7, slots := 0, locals := 12 } : Room) #[(.ref a1), (.int (0 : Int32))] h0 (Q_rm_init0 Z a1 h0 n0) := by
  refine meet (y := (⟨"com/example/edgewise/edgewise/EdgeSlots", "<init>", "(Z)V"⟩ : MethodName)) (Q := Q_rm_init0 Z a1 h0 n0) (plainFor_of_name pn_com_example_edgewise_edgewise_EdgeSlots) (fun m => ef_rm_init0 m a1) ?_
  intro p e s m below meth c T0 hx hby hml hZ hown hnm hret hlk X0 e0
  have N0 := Fr.nil n0
  have K0 := Keep.refl h0 [a1]
  refine g_aloadN X0 hx hby d1_0 (pc' := 1) rfl rfl rfl ?_
  refine g_init X0 hx hby hZ hown (wi hw 10 rfl) (wi hw 11 rfl) (wi hw 12 rfl) e0 (by rw [hml]; rfl) d1_1 (pc' := 4) rfl (by decide) (W := 0) rfl (by decide) ?_
  intro T1 X1 e1
  refine g_aloadN X1 hx hby d1_4 (pc' := 5) rfl rfl rfl ?_
  refine g_iconst X1 hx hby d1_5 (pc' := 6) rfl (z := (0 : Int32)) rfl ?_
  refine Go.newarr X1 hx hZ (n := 0) (cap := 0) (ty := .int) rfl (wi hw 0 rfl) e1 (by decide) rfl (by decide) (by decide) (by decide) (by decide) (hb hby d1_6) (pc' := 8) rfl ?_
  intro T2 h2 b2 X2 e2 E2 hb2 V2
  have g3 : n0 ≤ b2 := by rw [hb2]; exact Z0
  have s4 : h0.size ≤ b2 := by rw [hb2]; exact K0.1
  have V5 : ArF Z h2 b2 .int 0 (fun i => .int ((fun _ => (0 : Int32)) i)) := V2
  have f6 := P1.ext E2
  have f7 := P0.ext E2
  refine g_putf X2 hx hby hZ hown (host := "") (Or.inl (wi hw 13 rfl)) Via.refl e2 f6 f7 (Or.inl (wi hw 14 rfl)) (wi hw 5 rfl) (ty := (.array .int)) (by decide) rfl rfl d1_8 (pc' := 11) rfl ?_
  intro T8 h8 X8 e8 W8 F8
  refine g_aloadN X8 hx hby d1_11 (pc' := 12) rfl rfl rfl ?_
  refine g_iconst X8 hx hby d1_12 (pc' := 13) rfl (z := (0 : Int32)) rfl ?_
  refine Go.newarr X8 hx hZ (n := 0) (cap := 0) (ty := .int) rfl (wi hw 0 rfl) e8 (by decide) rfl (by decide) (by decide) (by decide) (by decide) (hb hby d1_13) (pc' := 15) rfl ?_
  intro T9 h9 b9 X9 e9 E9 hb9 V9
  have g10 : n0 ≤ b9 := by rw [hb9]; exact (Nat.le_trans (Nat.le_trans Z0 E2.1) (Nat.le_of_eq (Wr.size W8).symm))
  have s11 : h0.size ≤ b9 := by rw [hb9]; exact ((K0.ext E2).wr W8 (Or.inl (List.mem_of_getElem? (i := 0) rfl))).1
  have V12 : ArF Z h9 b9 .int 0 (fun i => .int ((fun _ => (0 : Int32)) i)) := V9
  have f13 := (((P2.ext E2).other W8 (Or.inr (sn0 hw))).ext E9)
  have f14 := ((f7.wr W8).ext E9)
  refine g_putf X9 hx hby hZ hown (host := "") (Or.inl (wi hw 15 rfl)) Via.refl e9 f13 f14 (Or.inl (wi hw 16 rfl)) (wi hw 5 rfl) (ty := (.array .int)) (by decide) rfl rfl d1_15 (pc' := 18) rfl ?_
  intro T15 h15 X15 e15 W15 F15
  refine g_aloadN X15 hx hby d1_18 (pc' := 19) rfl rfl rfl ?_
  refine g_iconst X15 hx hby d1_19 (pc' := 20) rfl (z := (0 : Int32)) rfl ?_
  refine Go.newarr X15 hx hZ (n := 0) (cap := 0) (ty := .int) rfl (wi hw 0 rfl) e15 (by decide) rfl (by decide) (by decide) (by decide) (by decide) (hb hby d1_20) (pc' := 22) rfl ?_
  intro T16 h16 b16 X16 e16 E16 hb16 V16
  have g17 : n0 ≤ b16 := by rw [hb16]; exact (Nat.le_trans (Nat.le_trans (Nat.le_trans (Nat.le_trans Z0 E2.1) (Nat.le_of_eq (Wr.size W8).symm)) E9.1) (Nat.le_of_eq (Wr.size W15).symm))
  have s18 : h0.size ≤ b16 := by rw [hb16]; exact ((((K0.ext E2).wr W8 (Or.inl (List.mem_of_getElem? (i := 0) rfl))).ext E9).wr W15 (Or.inl (List.mem_of_getElem? (i := 0) rfl))).1
  have V19 : ArF Z h16 b16 .int 0 (fun i => .int ((fun _ => (0 : Int32)) i)) := V16
  have z20 : n0 ≤ h16.size := (Nat.le_trans (Nat.le_trans (Nat.le_trans (Nat.le_trans (Nat.le_trans Z0 E2.1) (Nat.le_of_eq (Wr.size W8).symm)) E9.1) (Nat.le_of_eq (Wr.size W15).symm)) E16.1)
  have f21 := (((((P3.ext E2).other W8 (Or.inr (sn1 hw))).ext E9).other W15 (Or.inr (sn2 hw))).ext E16)
  have f22 := ((f14.wr W15).ext E16)
  refine g_putf X16 hx hby hZ hown (host := "") (Or.inl (wi hw 17 rfl)) Via.refl e16 f21 f22 (Or.inl (wi hw 18 rfl)) (wi hw 5 rfl) (ty := (.array .int)) (by decide) rfl rfl d1_22 (pc' := 25) rfl ?_
  intro T23 h23 X23 e23 W23 F23
  refine g_aloadN X23 hx hby d1_25 (pc' := 26) rfl rfl rfl ?_
  refine g_iconst X23 hx hby d1_26 (pc' := 27) rfl (z := (0 : Int32)) rfl ?_
  refine Go.newarr X23 hx hZ (n := 0) (cap := 0) (ty := .int) rfl (wi hw 0 rfl) e23 (by decide) rfl (by decide) (by decide) (by decide) (by decide) (hb hby d1_27) (pc' := 29) rfl ?_
  intro T24 h24 b24 X24 e24 E24 hb24 V24
  have g25 : n0 ≤ b24 := by rw [hb24]; exact (Nat.le_trans z20 (Nat.le_of_eq (Wr.size W23).symm))
  have s26 : h0.size ≤ b24 := by rw [hb24]; exact ((((((K0.ext E2).wr W8 (Or.inl (List.mem_of_getElem? (i := 0) rfl))).ext E9).wr W15 (Or.inl (List.mem_of_getElem? (i := 0) rfl))).ext E16).wr W23 (Or.inl (List.mem_of_getElem? (i := 0) rfl))).1
  have V27 : ArF Z h24 b24 .int 0 (fun i => .int ((fun _ => (0 : Int32)) i)) := V24
  have K28 : Keep h0 h24 [a1] := (((((((K0.ext E2).wr W8 (Or.inl (List.mem_of_getElem? (i := 0) rfl))).ext E9).wr W15 (Or.inl (List.mem_of_getElem? (i := 0) rfl))).ext E16).wr W23 (Or.inl (List.mem_of_getElem? (i := 0) rfl))).ext E24)
  have f29 := (((((((P4.ext E2).other W8 (Or.inr (sn3 hw))).ext E9).other W15 (Or.inr (sn4 hw))).ext E16).other W23 (Or.inr (sn5 hw))).ext E24)
  have f30 := ((f22.wr W23).ext E24)
  refine g_putf X24 hx hby hZ hown (host := "") (Or.inl (wi hw 19 rfl)) Via.refl e24 f29 f30 (Or.inl (wi hw 20 rfl)) (wi hw 5 rfl) (ty := (.array .int)) (by decide) rfl rfl d1_29 (pc' := 32) rfl ?_
  intro T31 h31 X31 e31 W31 F31
  refine g_aloadN X31 hx hby d1_32 (pc' := 33) rfl rfl rfl ?_
  refine g_iconst X31 hx hby d1_33 (pc' := 34) rfl (z := (0 : Int32)) rfl ?_
  refine Go.newarr X31 hx hZ (n := 0) (cap := 0) (ty := .double) rfl (wi hw 21 rfl) e31 (by decide) rfl (by decide) (by decide) (by decide) (by decide) (hb hby d1_34) (pc' := 36) rfl ?_
  intro T32 h32 b32 X32 e32 E32 hb32 V32
  have g33 : n0 ≤ b32 := by rw [hb32]; exact (Nat.le_trans (Nat.le_trans (Nat.le_trans z20 (Nat.le_of_eq (Wr.size W23).symm)) E24.1) (Nat.le_of_eq (Wr.size W31).symm))
  have s34 : h0.size ≤ b32 := by rw [hb32]; exact (K28.wr W31 (Or.inl (List.mem_of_getElem? (i := 0) rfl))).1
  have V35 : ArF Z h32 b32 .double 0 (fun i => .double ((fun _ => (0 : UInt64)) i)) := V32
  have f36 := (((((((((P5.ext E2).other W8 (Or.inr (sn6 hw))).ext E9).other W15 (Or.inr (sn7 hw))).ext E16).other W23 (Or.inr (sn8 hw))).ext E24).other W31 (Or.inr (sn9 hw))).ext E32)
  have f37 := ((f30.wr W31).ext E32)
  refine g_putf X32 hx hby hZ hown (host := "") (Or.inl (wi hw 22 rfl)) Via.refl e32 f36 f37 (Or.inl (wi hw 23 rfl)) (wi hw 5 rfl) (ty := (.array .double)) (by decide) rfl rfl d1_36 (pc' := 39) rfl ?_
  intro T38 h38 X38 e38 W38 F38
  have z39 : n0 ≤ h38.size := (Nat.le_trans (Nat.le_trans (Nat.le_trans (Nat.le_trans (Nat.le_trans z20 (Nat.le_of_eq (Wr.size W23).symm)) E24.1) (Nat.le_of_eq (Wr.size W31).symm)) E32.1) (Nat.le_of_eq (Wr.size W38).symm))
  refine g_aloadN X38 hx hby d1_39 (pc' := 40) rfl rfl rfl ?_
  refine g_iconst X38 hx hby d1_40 (pc' := 41) rfl (z := (0 : Int32)) rfl ?_
  refine Go.newarr X38 hx hZ (n := 0) (cap := 0) (ty := .int) rfl (wi hw 0 rfl) e38 (by decide) rfl (by decide) (by decide) (by decide) (by decide) (hb hby d1_41) (pc' := 43) rfl ?_
  intro T40 h40 b40 X40 e40 E40 hb40 V40
  have g41 : n0 ≤ b40 := by rw [hb40]; exact z39
  have s42 : h0.size ≤ b40 := by rw [hb40]; exact (((K28.wr W31 (Or.inl (List.mem_of_getElem? (i := 0) rfl))).ext E32).wr W38 (Or.inl (List.mem_of_getElem? (i := 0) rfl))).1
  have V43 : ArF Z h40 b40 .int 0 (fun i => .int ((fun _ => (0 : Int32)) i)) := V40
  have f44 := (((((((((((P6.ext E2).other W8 (Or.inr (sn10 hw))).ext E9).other W15 (Or.inr (sn11 hw))).ext E16).other W23 (Or.inr (sn12 hw))).ext E24).other W31 (Or.inr (sn13 hw))).ext E32).other W38 (Or.inr (sn14 hw))).ext E40)
  have f45 := ((f37.wr W38).ext E40)
  refine g_putf X40 hx hby hZ hown (host := "") (Or.inl (wi hw 24 rfl)) Via.refl e40 f44 f45 (Or.inl (wi hw 25 rfl)) (wi hw 5 rfl) (ty := (.array .int)) (by decide) rfl rfl d1_43 (pc' := 46) rfl ?_
  intro T46 h46 X46 e46 W46 F46
  have N46 := (Fr.snoc X46 (Fr.snoc X38 (Fr.snoc X31 (Fr.snoc X23 (Fr.snoc X15 (Fr.snoc X8 N0 ge_a1) ge_a1) ge_a1) ge_a1) ge_a1) ge_a1)
  refine g_aloadN X46 hx hby d1_46 (pc' := 47) rfl rfl rfl ?_
  refine g_iconst X46 hx hby d1_47 (pc' := 48) rfl (z := (0 : Int32)) rfl ?_
  refine Go.newarr X46 hx hZ (n := 0) (cap := 0) (ty := .long) rfl (wi hw 1 rfl) e46 (by decide) rfl (by decide) (by decide) (by decide) (by decide) (hb hby d1_48) (pc' := 50) rfl ?_
  intro T47 h47 b47 X47 e47 E47 hb47 V47
  have g48 : n0 ≤ b47 := by rw [hb47]; exact (Nat.le_trans (Nat.le_trans z39 E40.1) (Nat.le_of_eq (Wr.size W46).symm))
  have s49 : h0.size ≤ b47 := by rw [hb47]; exact (((((K28.wr W31 (Or.inl (List.mem_of_getElem? (i := 0) rfl))).ext E32).wr W38 (Or.inl (List.mem_of_getElem? (i := 0) rfl))).ext E40).wr W46 (Or.inl (List.mem_of_getElem? (i := 0) rfl))).1
  have V50 : ArF Z h47 b47 .long 0 (fun i => .long ((fun _ => (0 : Int64)) i)) := V47
  have f51 := (((((((((((((P7.ext E2).other W8 (Or.inr (sn15 hw))).ext E9).other W15 (Or.inr (sn16 hw))).ext E16).other W23 (Or.inr (sn17 hw))).ext E24).other W31 (Or.inr (sn18 hw))).ext E32).other W38 (Or.inr (sn19 hw))).ext E40).other W46 (Or.inr (sn20 hw))).ext E47)
  have f52 := ((f45.wr W46).ext E47)
  refine g_putf X47 hx hby hZ hown (host := "") (Or.inl (wi hw 26 rfl)) Via.refl e47 f51 f52 (Or.inl (wi hw 27 rfl)) (wi hw 5 rfl) (ty := (.array .long)) (by decide) rfl rfl d1_50 (pc' := 53) rfl ?_
  intro T53 h53 X53 e53 W53 F53
  have K54 : Keep h0 h53 [a1] := (((((((K28.wr W31 (Or.inl (List.mem_of_getElem? (i := 0) rfl))).ext E32).wr W38 (Or.inl (List.mem_of_getElem? (i := 0) rfl))).ext E40).wr W46 (Or.inl (List.mem_of_getElem? (i := 0) rfl))).ext E47).wr W53 (Or.inl (List.mem_of_getElem? (i := 0) rfl)))
  refine g_aloadN X53 hx hby d1_53 (pc' := 54) rfl rfl rfl ?_
  refine g_iloadN X53 hx hby d1_54 (pc' := 55) rfl rfl ?_
  have f55 := ((((((((((((((P8.ext E2).other W8 (Or.inr (sn21 hw))).ext E9).other W15 (Or.inr (sn22 hw))).ext E16).other W23 (Or.inr (sn23 hw))).ext E24).other W31 (Or.inr (sn24 hw))).ext E32).other W38 (Or.inr (sn25 hw))).ext E40).other W46 (Or.inr (sn26 hw))).ext E47).other W53 (Or.inr (sn27 hw)))
  have f56 := f52.wr W53
  obtain ⟨T57, h57, X57, e57, W57, st57⟩ := putFN X53 hx hZ hown (wi hw 28 rfl) Via.refl e53 f55 f56 (Or.inr ⟨(wi hw 29 rfl), rfl, hnm⟩) (wi hw 5 rfl) (ty := .boolean) (v' := (.int (0 : Int32))) (by decide) rfl rfl (g := (mkF m 55 #[.val (.ref a1), .val (.int (0 : Int32))] [(.int (0 : Int32)), (.ref a1)])) rfl rfl (hb hby d1_55)
  refine Go.of st57 ?_
  have F57 := f55.same W57
  have z58 : n0 ≤ h57.size := (Nat.le_trans (Nat.le_trans (Nat.le_trans (Nat.le_trans (Nat.le_trans z39 E40.1) (Nat.le_of_eq (Wr.size W46).symm)) E47.1) (Nat.le_of_eq (Wr.size W53).symm)) (Nat.le_of_eq (Wr.size W57).symm))
  show Go p.tables e below s _ _ _ (T57.setTop (mkF m 58 #[.val (.ref a1), .val (.int (0 : Int32))] []))
  refine Go.retV X57 hx hlk hret (hb hby d1_58) rfl (by decide) (by decide) ?_
  have f59 := (((((((((((((F8.ext E9).other W15 (Or.inr (sn28 hw))).ext E16).other W23 (Or.inr (sn29 hw))).ext E24).other W31 (Or.inr (sn30 hw))).ext E32).other W38 (Or.inr (sn31 hw))).ext E40).other W46 (Or.inr (sn32 hw))).ext E47).other W53 (Or.inr (sn33 hw))).other W57 (Or.inr (sn34 hw)))
  have f60 := (((((((((((F15.ext E16).other W23 (Or.inr (sn35 hw))).ext E24).other W31 (Or.inr (sn36 hw))).ext E32).other W38 (Or.inr (sn37 hw))).ext E40).other W46 (Or.inr (sn38 hw))).ext E47).other W53 (Or.inr (sn39 hw))).other W57 (Or.inr (sn40 hw)))
  have f61 := (((((((((F23.ext E24).other W31 (Or.inr (sn41 hw))).ext E32).other W38 (Or.inr (sn42 hw))).ext E40).other W46 (Or.inr (sn43 hw))).ext E47).other W53 (Or.inr (sn44 hw))).other W57 (Or.inr (sn45 hw)))
  have f62 := (((((((F31.ext E32).other W38 (Or.inr (sn46 hw))).ext E40).other W46 (Or.inr (sn47 hw))).ext E47).other W53 (Or.inr (sn48 hw))).other W57 (Or.inr (sn49 hw)))
  have f63 := (((((F38.ext E40).other W46 (Or.inr (sn50 hw))).ext E47).other W53 (Or.inr (sn51 hw))).other W57 (Or.inr (sn52 hw)))
  have f64 := (((F46.ext E47).other W53 (Or.inr (sn53 hw))).other W57 (Or.inr (sn54 hw)))
  have f65 := (F53.other W57 (Or.inr (sn55 hw)))
  rw [e57]
  have ne66 : a1 ≠ b2 := Nat.ne_of_lt (by rw [hb2]; exact P11.lt)
  have ne67 : b2 ≠ b9 := Nat.ne_of_lt (by rw [hb9]; exact (V5.other W8 (Ne.symm ne66)).lt)
  have ne68 : b2 ≠ b16 := Nat.ne_of_lt (by rw [hb16]; exact (((V5.other W8 (Ne.symm ne66)).ext E9).other W15 (Ne.symm ne66)).lt)
  have ne69 : b2 ≠ b24 := Nat.ne_of_lt (by rw [hb24]; exact (((((V5.other W8 (Ne.symm ne66)).ext E9).other W15 (Ne.symm ne66)).ext E16).other W23 (Ne.symm ne66)).lt)
  have ne70 : b2 ≠ b32 := Nat.ne_of_lt (by rw [hb32]; exact (((((((V5.other W8 (Ne.symm ne66)).ext E9).other W15 (Ne.symm ne66)).ext E16).other W23 (Ne.symm ne66)).ext E24).other W31 (Ne.symm ne66)).lt)
  have ne71 : b2 ≠ b40 := Nat.ne_of_lt (by rw [hb40]; exact (((((((((V5.other W8 (Ne.symm ne66)).ext E9).other W15 (Ne.symm ne66)).ext E16).other W23 (Ne.symm ne66)).ext E24).other W31 (Ne.symm ne66)).ext E32).other W38 (Ne.symm ne66)).lt)
  have ne72 : b2 ≠ b47 := Nat.ne_of_lt (by rw [hb47]; exact (((((((((((V5.other W8 (Ne.symm ne66)).ext E9).other W15 (Ne.symm ne66)).ext E16).other W23 (Ne.symm ne66)).ext E24).other W31 (Ne.symm ne66)).ext E32).other W38 (Ne.symm ne66)).ext E40).other W46 (Ne.symm ne66)).lt)
  have ne73 : a1 ≠ b9 := Nat.ne_of_lt (by rw [hb9]; exact F8.lt)
  have ne74 : b9 ≠ b16 := Nat.ne_of_lt (by rw [hb16]; exact (V12.other W15 (Ne.symm ne73)).lt)
  have ne75 : b9 ≠ b24 := Nat.ne_of_lt (by rw [hb24]; exact (((V12.other W15 (Ne.symm ne73)).ext E16).other W23 (Ne.symm ne73)).lt)
  have ne76 : b9 ≠ b32 := Nat.ne_of_lt (by rw [hb32]; exact (((((V12.other W15 (Ne.symm ne73)).ext E16).other W23 (Ne.symm ne73)).ext E24).other W31 (Ne.symm ne73)).lt)
  have ne77 : b9 ≠ b40 := Nat.ne_of_lt (by rw [hb40]; exact (((((((V12.other W15 (Ne.symm ne73)).ext E16).other W23 (Ne.symm ne73)).ext E24).other W31 (Ne.symm ne73)).ext E32).other W38 (Ne.symm ne73)).lt)
  have ne78 : b9 ≠ b47 := Nat.ne_of_lt (by rw [hb47]; exact (((((((((V12.other W15 (Ne.symm ne73)).ext E16).other W23 (Ne.symm ne73)).ext E24).other W31 (Ne.symm ne73)).ext E32).other W38 (Ne.symm ne73)).ext E40).other W46 (Ne.symm ne73)).lt)
  have ne79 : a1 ≠ b16 := Nat.ne_of_lt (by rw [hb16]; exact F15.lt)
  have ne80 : b16 ≠ b24 := Nat.ne_of_lt (by rw [hb24]; exact (V19.other W23 (Ne.symm ne79)).lt)
  have ne81 : b16 ≠ b32 := Nat.ne_of_lt (by rw [hb32]; exact (((V19.other W23 (Ne.symm ne79)).ext E24).other W31 (Ne.symm ne79)).lt)
  have ne82 : b16 ≠ b40 := Nat.ne_of_lt (by rw [hb40]; exact (((((V19.other W23 (Ne.symm ne79)).ext E24).other W31 (Ne.symm ne79)).ext E32).other W38 (Ne.symm ne79)).lt)
  have ne83 : b16 ≠ b47 := Nat.ne_of_lt (by rw [hb47]; exact (((((((V19.other W23 (Ne.symm ne79)).ext E24).other W31 (Ne.symm ne79)).ext E32).other W38 (Ne.symm ne79)).ext E40).other W46 (Ne.symm ne79)).lt)
  have ne84 : a1 ≠ b24 := Nat.ne_of_lt (by rw [hb24]; exact F23.lt)
  have ne85 : b24 ≠ b32 := Nat.ne_of_lt (by rw [hb32]; exact (V27.other W31 (Ne.symm ne84)).lt)
  have ne86 : b24 ≠ b40 := Nat.ne_of_lt (by rw [hb40]; exact (((V27.other W31 (Ne.symm ne84)).ext E32).other W38 (Ne.symm ne84)).lt)
  have ne87 : b24 ≠ b47 := Nat.ne_of_lt (by rw [hb47]; exact (((((V27.other W31 (Ne.symm ne84)).ext E32).other W38 (Ne.symm ne84)).ext E40).other W46 (Ne.symm ne84)).lt)
  have ne88 : a1 ≠ b32 := Nat.ne_of_lt (by rw [hb32]; exact F31.lt)
  have ne89 : b32 ≠ b40 := Nat.ne_of_lt (by rw [hb40]; exact (V35.other W38 (Ne.symm ne88)).lt)
  have ne90 : b32 ≠ b47 := Nat.ne_of_lt (by rw [hb47]; exact (((V35.other W38 (Ne.symm ne88)).ext E40).other W46 (Ne.symm ne88)).lt)
  have ne91 : a1 ≠ b40 := Nat.ne_of_lt (by rw [hb40]; exact F38.lt)
  have ne92 : b40 ≠ b47 := Nat.ne_of_lt (by rw [hb47]; exact (V43.other W46 (Ne.symm ne91)).lt)
  have f93 := (((((((((((((((P9.ext E2).other W8 (Or.inr (sn56 hw))).ext E9).other W15 (Or.inr (sn57 hw))).ext E16).other W23 (Or.inr (sn58 hw))).ext E24).other W31 (Or.inr (sn59 hw))).ext E32).other W38 (Or.inr (sn60 hw))).ext E40).other W46 (Or.inr (sn61 hw))).ext E47).other W53 (Or.inr (sn62 hw))).other W57 (Or.inr (sn63 hw)))
  have f94 := (((((((((((((((P10.ext E2).other W8 (Or.inr (sn64 hw))).ext E9).other W15 (Or.inr (sn65 hw))).ext E16).other W23 (Or.inr (sn66 hw))).ext E24).other W31 (Or.inr (sn67 hw))).ext E32).other W38 (Or.inr (sn68 hw))).ext E40).other W46 (Or.inr (sn69 hw))).ext E47).other W53 (Or.inr (sn70 hw))).other W57 (Or.inr (sn71 hw)))
  have f95 := (((((((((((((((P11.ext E2).other W8 (Or.inr (sn72 hw))).ext E9).other W15 (Or.inr (sn73 hw))).ext E16).other W23 (Or.inr (sn74 hw))).ext E24).other W31 (Or.inr (sn75 hw))).ext E32).other W38 (Or.inr (sn76 hw))).ext E40).other W46 (Or.inr (sn77 hw))).ext E47).other W53 (Or.inr (sn78 hw))).other W57 (Or.inr (sn79 hw)))
  have f96 := ((((((((((((((V5.other W8 (Ne.symm ne66)).ext E9).other W15 (Ne.symm ne66)).ext E16).other W23 (Ne.symm ne66)).ext E24).other W31 (Ne.symm ne66)).ext E32).other W38 (Ne.symm ne66)).ext E40).other W46 (Ne.symm ne66)).ext E47).other W53 (Ne.symm ne66)).other W57 (Ne.symm ne66))
  have f97 := ((((((((((((V12.other W15 (Ne.symm ne73)).ext E16).other W23 (Ne.symm ne73)).ext E24).other W31 (Ne.symm ne73)).ext E32).other W38 (Ne.symm ne73)).ext E40).other W46 (Ne.symm ne73)).ext E47).other W53 (Ne.symm ne73)).other W57 (Ne.symm ne73))
  have f98 := ((((((((((V19.other W23 (Ne.symm ne79)).ext E24).other W31 (Ne.symm ne79)).ext E32).other W38 (Ne.symm ne79)).ext E40).other W46 (Ne.symm ne79)).ext E47).other W53 (Ne.symm ne79)).other W57 (Ne.symm ne79))
  have f99 := ((((((((V27.other W31 (Ne.symm ne84)).ext E32).other W38 (Ne.symm ne84)).ext E40).other W46 (Ne.symm ne84)).ext E47).other W53 (Ne.symm ne84)).other W57 (Ne.symm ne84))
  have f100 := ((((((V35.other W38 (Ne.symm ne88)).ext E40).other W46 (Ne.symm ne88)).ext E47).other W53 (Ne.symm ne88)).other W57 (Ne.symm ne88))
  have f101 := ((((V43.other W46 (Ne.symm ne91)).ext E47).other W53 (Ne.symm ne91)).other W57 (Ne.symm ne91))
  have ne102 : a1 ≠ b47 := Nat.ne_of_lt (by rw [hb47]; exact F46.lt)
  have f103 := ((V50.other W53 (Ne.symm ne102)).other W57 (Ne.symm ne102))
  exact ⟨b2, b9, b16, b24, b32, b40, b47, rfl, (Fr.snoc X57 (Fr.snoc X53 N46 ge_a1) ge_a1), (K54.wr W57 (Or.inl (List.mem_of_getElem? (i := 0) rfl))), g3, s4, g10, s11, g17, s18, g25, s26, g33, s34, g41, s42, g48, s49, ne67, ne68, ne69, ne70, ne71, ne72, ne74, ne75, ne76, ne77, ne78, ne80, ne81, ne82, ne83, ne85, ne86, ne87, ne89, ne90, ne92, f59, f60, f61, f62, f63, f64, f65, F57, f93, f94, f95, f96, f97, f98, f99, f100, f101, f103⟩
theorem ef_rm_init1 (m : MethodId) (x0 : Addr) : entryFrame m #[(.ref x0), (.int (1 : Int32))] 2 = mkF m 0 #[.val (.ref x0), .val (.int (1 : Int32))] [] := by first | (simp [entryFrame, mkF, argsToLocals, Value.category]; done) | rfl
abbrev Q_rm_init1 (Z : State) (a1 : Addr) (h0 : Heap) (n0 : Nat) : Option Value → Heap → List Loc → Prop := fun v h L => ∃ (b1 : Addr) (b2 : Addr) (b3 : Addr) (b4 : Addr) (b5 : Addr) (b6 : Addr) (b7 : Addr), v = none ∧ Fr n0 L ∧ Keep h0 h [a1] ∧ n0 ≤ b1 ∧ h0.size ≤ b1 ∧ n0 ≤ b2 ∧ h0.size ≤ b2 ∧ n0 ≤ b3 ∧ h0.size ≤ b3 ∧ n0 ≤ b4 ∧ h0.size ≤ b4 ∧ n0 ≤ b5 ∧ h0.size ≤ b5 ∧ n0 ≤ b6 ∧ h0.size ≤ b6 ∧ n0 ≤ b7 ∧ h0.size ≤ b7 ∧ b1 ≠ b2 ∧ b1 ≠ b3 ∧ b1 ≠ b4 ∧ b1 ≠ b5 ∧ b1 ≠ b6 ∧ b1 ≠ b7 ∧ b2 ≠ b3 ∧ b2 ≠ b4 ∧ b2 ≠ b5 ∧ b2 ≠ b6 ∧ b2 ≠ b7 ∧ b3 ≠ b4 ∧ b3 ≠ b5 ∧ b3 ≠ b6 ∧ b3 ≠ b7 ∧ b4 ≠ b5 ∧ b4 ≠ b6 ∧ b4 ≠ b7 ∧ b5 ≠ b6 ∧ b5 ≠ b7 ∧ b6 ≠ b7 ∧ Fld Z h a1 kES "sources" "[I" (.ref b1) ∧ Fld Z h a1 kES "targets" "[I" (.ref b2) ∧ Fld Z h a1 kES "sourcePositions" "[I" (.ref b3) ∧ Fld Z h a1 kES "targetPositions" "[I" (.ref b4) ∧ Fld Z h a1 kES "weights" "[D" (.ref b5) ∧ Fld Z h a1 kES "keys" "[I" (.ref b6) ∧ Fld Z h a1 kES "keptNumbers" "[J" (.ref b7) ∧ Fld Z h a1 kES "keyed" "Z" (.int (1 : Int32)) ∧ Fld Z h a1 kES "bound" "I" (.int (0 : Int32)) ∧ Fld Z h a1 kES "count" "I" (.int (0 : Int32)) ∧ Fld Z h a1 kES "nextNumber" "J" (.long (0 : Int64)) ∧ ArF Z h b1 .int 0 (fun i => .int ((fun _ => (0 : Int32)) i)) ∧ ArF Z h b2 .int 0 (fun i => .int ((fun _ => (0 : Int32)) i)) ∧ ArF Z h b3 .int 0 (fun i => .int ((fun _ => (0 : Int32)) i)) ∧ ArF Z h b4 .int 0 (fun i => .int ((fun _ => (0 : Int32)) i)) ∧ ArF Z h b5 .double 0 (fun i => .double ((fun _ => (0 : UInt64)) i)) ∧ ArF Z h b6 .int 0 (fun i => .int ((fun _ => (0 : Int32)) i)) ∧ ArF Z h b7 .long 0 (fun i => .long ((fun _ => (0 : Int64)) i))
set_option maxRecDepth 65536 in
set_option maxHeartbeats 40000000 in
theorem rm_init1 (l : Launch) (Z : State) (a0 : Array Value) (hw : ∀ d ∈ tables_1, d.before a0 Z = true) (a1 : Addr) (h0 : Heap) (n0 : Nat) (Z0 : n0 ≤ h0.size) (P0 : Exa Z h0 a1 kES) (P1 : Fld Z h0 a1 kES "sources" "[I" .null) (P2 : Fld Z h0 a1 kES "targets" "[I" .null) (P3 : Fld Z h0 a1 kES "sourcePositions" "[I" .null) (P4 : Fld Z h0 a1 kES "targetPositions" "[I" .null) (P5 : Fld Z h0 a1 kES "weights" "[D" .null) (P6 : Fld Z h0 a1 kES "keys" "[I" .null) (P7 : Fld Z h0 a1 kES "keptNumbers" "[J" .null) (P8 : Fld Z h0 a1 kES "keyed" "Z" (.int (0 : Int32))) (P9 : Fld Z h0 a1 kES "bound" "I" (.int (0 : Int32))) (P10 : Fld Z h0 a1 kES "count" "I" (.int (0 : Int32))) (P11 : Fld Z h0 a1 kES "nextNumber" "J" (.long (0 : Int64))) (ge_a1 : n0 ≤ a1) :
    Con l Z (⟨"com/example/edgewise/edgewise/EdgeSlots", "<init>", "(Z)V"⟩ : MethodName) prog_12_method_1_code 2 none ({ frames := 1, cells := 7, slots := 0, locals := 12 } : Room) #[(.ref a1), (.int (1 : Int32))] h0 (Q_rm_init1 Z a1 h0 n0) := by
  refine meet (y := (⟨"com/example/edgewise/edgewise/EdgeSlots", "<init>", "(Z)V"⟩ : MethodName)) (Q := Q_rm_init1 Z a1 h0 n0) (plainFor_of_name pn_com_example_edgewise_edgewise_EdgeSlots) (fun m => ef_rm_init1 m a1) ?_
  intro p e s m below meth c T0 hx hby hml hZ hown hnm hret hlk X0 e0
  have N0 := Fr.nil n0
  have K0 := Keep.refl h0 [a1]
  refine g_aloadN X0 hx hby d1_0 (pc' := 1) rfl rfl rfl ?_
  refine g_init X0 hx hby hZ hown (wi hw 10 rfl) (wi hw 11 rfl) (wi hw 12 rfl) e0 (by rw [hml]; rfl) d1_1 (pc' := 4) rfl (by decide) (W := 0) rfl (by decide) ?_
  intro T1 X1 e1
  refine g_aloadN X1 hx hby d1_4 (pc' := 5) rfl rfl rfl ?_
  refine g_iconst X1 hx hby d1_5 (pc' := 6) rfl (z := (0 : Int32)) rfl ?_
  refine Go.newarr X1 hx hZ (n := 0) (cap := 0) (ty := .int) rfl (wi hw 0 rfl) e1 (by decide) rfl (by decide) (by decide) (by decide) (by decide) (hb hby d1_6) (pc' := 8) rfl ?_
  intro T2 h2 b2 X2 e2 E2 hb2 V2
  have g3 : n0 ≤ b2 := by rw [hb2]; exact Z0
  have s4 : h0.size ≤ b2 := by rw [hb2]; exact K0.1
  have V5 : ArF Z h2 b2 .int 0 (fun i => .int ((fun _ => (0 : Int32)) i)) := V2
  have f6 := P1.ext E2
  have f7 := P0.ext E2
  refine g_putf X2 hx hby hZ hown (host := "") (Or.inl (wi hw 13 rfl)) Via.refl e2 f6 f7 (Or.inl (wi hw 14 rfl)) (wi hw 5 rfl) (ty := (.array .int)) (by decide) rfl rfl d1_8 (pc' := 11) rfl ?_
  intro T8 h8 X8 e8 W8 F8
  refine g_aloadN X8 hx hby d1_11 (pc' := 12) rfl rfl rfl ?_
  refine g_iconst X8 hx hby d1_12 (pc' := 13) rfl (z := (0 : Int32)) rfl ?_
  refine Go.newarr X8 hx hZ (n := 0) (cap := 0) (ty := .int) rfl (wi hw 0 rfl) e8 (by decide) rfl (by decide) (by decide) (by decide) (by decide) (hb hby d1_13) (pc' := 15) rfl ?_
  intro T9 h9 b9 X9 e9 E9 hb9 V9
  have g10 : n0 ≤ b9 := by rw [hb9]; exact (Nat.le_trans (Nat.le_trans Z0 E2.1) (Nat.le_of_eq (Wr.size W8).symm))
  have s11 : h0.size ≤ b9 := by rw [hb9]; exact ((K0.ext E2).wr W8 (Or.inl (List.mem_of_getElem? (i := 0) rfl))).1
  have V12 : ArF Z h9 b9 .int 0 (fun i => .int ((fun _ => (0 : Int32)) i)) := V9
  have f13 := (((P2.ext E2).other W8 (Or.inr (sn0 hw))).ext E9)
  have f14 := ((f7.wr W8).ext E9)
  refine g_putf X9 hx hby hZ hown (host := "") (Or.inl (wi hw 15 rfl)) Via.refl e9 f13 f14 (Or.inl (wi hw 16 rfl)) (wi hw 5 rfl) (ty := (.array .int)) (by decide) rfl rfl d1_15 (pc' := 18) rfl ?_
  intro T15 h15 X15 e15 W15 F15
  refine g_aloadN X15 hx hby d1_18 (pc' := 19) rfl rfl rfl ?_
  refine g_iconst X15 hx hby d1_19 (pc' := 20) rfl (z := (0 : Int32)) rfl ?_
  refine Go.newarr X15 hx hZ (n := 0) (cap := 0) (ty := .int) rfl (wi hw 0 rfl) e15 (by decide) rfl (by decide) (by decide) (by decide) (by decide) (hb hby d1_20) (pc' := 22) rfl ?_
  intro T16 h16 b16 X16 e16 E16 hb16 V16
  have g17 : n0 ≤ b16 := by rw [hb16]; exact (Nat.le_trans (Nat.le_trans (Nat.le_trans (Nat.le_trans Z0 E2.1) (Nat.le_of_eq (Wr.size W8).symm)) E9.1) (Nat.le_of_eq (Wr.size W15).symm))
  have s18 : h0.size ≤ b16 := by rw [hb16]; exact ((((K0.ext E2).wr W8 (Or.inl (List.mem_of_getElem? (i := 0) rfl))).ext E9).wr W15 (Or.inl (List.mem_of_getElem? (i := 0) rfl))).1
  have V19 : ArF Z h16 b16 .int 0 (fun i => .int ((fun _ => (0 : Int32)) i)) := V16
  have z20 : n0 ≤ h16.size := (Nat.le_trans (Nat.le_trans (Nat.le_trans (Nat.le_trans (Nat.le_trans Z0 E2.1) (Nat.le_of_eq (Wr.size W8).symm)) E9.1) (Nat.le_of_eq (Wr.size W15).symm)) E16.1)
  have f21 := (((((P3.ext E2).other W8 (Or.inr (sn1 hw))).ext E9).other W15 (Or.inr (sn2 hw))).ext E16)
  have f22 := ((f14.wr W15).ext E16)
  refine g_putf X16 hx hby hZ hown (host := "") (Or.inl (wi hw 17 rfl)) Via.refl e16 f21 f22 (Or.inl (wi hw 18 rfl)) (wi hw 5 rfl) (ty := (.array .int)) (by decide) rfl rfl d1_22 (pc' := 25) rfl ?_
  intro T23 h23 X23 e23 W23 F23
  refine g_aloadN X23 hx hby d1_25 (pc' := 26) rfl rfl rfl ?_
  refine g_iconst X23 hx hby d1_26 (pc' := 27) rfl (z := (0 : Int32)) rfl ?_
  refine Go.newarr X23 hx hZ (n := 0) (cap := 0) (ty := .int) rfl (wi hw 0 rfl) e23 (by decide) rfl (by decide) (by decide) (by decide) (by decide) (hb hby d1_27) (pc' := 29) rfl ?_
  intro T24 h24 b24 X24 e24 E24 hb24 V24
  have g25 : n0 ≤ b24 := by rw [hb24]; exact (Nat.le_trans z20 (Nat.le_of_eq (Wr.size W23).symm))
  have s26 : h0.size ≤ b24 := by rw [hb24]; exact ((((((K0.ext E2).wr W8 (Or.inl (List.mem_of_getElem? (i := 0) rfl))).ext E9).wr W15 (Or.inl (List.mem_of_getElem? (i := 0) rfl))).ext E16).wr W23 (Or.inl (List.mem_of_getElem? (i := 0) rfl))).1
  have V27 : ArF Z h24 b24 .int 0 (fun i => .int ((fun _ => (0 : Int32)) i)) := V24
  have K28 : Keep h0 h24 [a1] := (((((((K0.ext E2).wr W8 (Or.inl (List.mem_of_getElem? (i := 0) rfl))).ext E9).wr W15 (Or.inl (List.mem_of_getElem? (i := 0) rfl))).ext E16).wr W23 (Or.inl (List.mem_of_getElem? (i := 0) rfl))).ext E24)
  have f29 := (((((((P4.ext E2).other W8 (Or.inr (sn3 hw))).ext E9).other W15 (Or.inr (sn4 hw))).ext E16).other W23 (Or.inr (sn5 hw))).ext E24)
  have f30 := ((f22.wr W23).ext E24)
  refine g_putf X24 hx hby hZ hown (host := "") (Or.inl (wi hw 19 rfl)) Via.refl e24 f29 f30 (Or.inl (wi hw 20 rfl)) (wi hw 5 rfl) (ty := (.array .int)) (by decide) rfl rfl d1_29 (pc' := 32) rfl ?_
  intro T31 h31 X31 e31 W31 F31
  refine g_aloadN X31 hx hby d1_32 (pc' := 33) rfl rfl rfl ?_
  refine g_iconst X31 hx hby d1_33 (pc' := 34) rfl (z := (0 : Int32)) rfl ?_
  refine Go.newarr X31 hx hZ (n := 0) (cap := 0) (ty := .double) rfl (wi hw 21 rfl) e31 (by decide) rfl (by decide) (by decide) (by decide) (by decide) (hb hby d1_34) (pc' := 36) rfl ?_
  intro T32 h32 b32 X32 e32 E32 hb32 V32
  have g33 : n0 ≤ b32 := by rw [hb32]; exact (Nat.le_trans (Nat.le_trans (Nat.le_trans z20 (Nat.le_of_eq (Wr.size W23).symm)) E24.1) (Nat.le_of_eq (Wr.size W31).symm))
  have s34 : h0.size ≤ b32 := by rw [hb32]; exact (K28.wr W31 (Or.inl (List.mem_of_getElem? (i := 0) rfl))).1
  have V35 : ArF Z h32 b32 .double 0 (fun i => .double ((fun _ => (0 : UInt64)) i)) := V32
  have f36 := (((((((((P5.ext E2).other W8 (Or.inr (sn6 hw))).ext E9).other W15 (Or.inr (sn7 hw))).ext E16).other W23 (Or.inr (sn8 hw))).ext E24).other W31 (Or.inr (sn9 hw))).ext E32)
  have f37 := ((f30.wr W31).ext E32)
  refine g_putf X32 hx hby hZ hown (host := "") (Or.inl (wi hw 22 rfl)) Via.refl e32 f36 f37 (Or.inl (wi hw 23 rfl)) (wi hw 5 rfl) (ty := (.array .double)) (by decide) rfl rfl d1_36 (pc' := 39) rfl ?_
  intro T38 h38 X38 e38 W38 F38
  have z39 : n0 ≤ h38.size := (Nat.le_trans (Nat.le_trans (Nat.le_trans (Nat.le_trans (Nat.le_trans z20 (Nat.le_of_eq (Wr.size W23).symm)) E24.1) (Nat.le_of_eq (Wr.size W31).symm)) E32.1) (Nat.le_of_eq (Wr.size W38).symm))
  refine g_aloadN X38 hx hby d1_39 (pc' := 40) rfl rfl rfl ?_
  refine g_iconst X38 hx hby d1_40 (pc' := 41) rfl (z := (0 : Int32)) rfl ?_
  refine Go.newarr X38 hx hZ (n := 0) (cap := 0) (ty := .int) rfl (wi hw 0 rfl) e38 (by decide) rfl (by decide) (by decide) (by decide) (by decide) (hb hby d1_41) (pc' := 43) rfl ?_
  intro T40 h40 b40 X40 e40 E40 hb40 V40
  have g41 : n0 ≤ b40 := by rw [hb40]; exact z39
  have s42 : h0.size ≤ b40 := by rw [hb40]; exact (((K28.wr W31 (Or.inl (List.mem_of_getElem? (i := 0) rfl))).ext E32).wr W38 (Or.inl (List.mem_of_getElem? (i := 0) rfl))).1
  have V43 : ArF Z h40 b40 .int 0 (fun i => .int ((fun _ => (0 : Int32)) i)) := V40
  have f44 := (((((((((((P6.ext E2).other W8 (Or.inr (sn10 hw))).ext E9).other W15 (Or.inr (sn11 hw))).ext E16).other W23 (Or.inr (sn12 hw))).ext E24).other W31 (Or.inr (sn13 hw))).ext E32).other W38 (Or.inr (sn14 hw))).ext E40)
  have f45 := ((f37.wr W38).ext E40)
  refine g_putf X40 hx hby hZ hown (host := "") (Or.inl (wi hw 24 rfl)) Via.refl e40 f44 f45 (Or.inl (wi hw 25 rfl)) (wi hw 5 rfl) (ty := (.array .int)) (by decide) rfl rfl d1_43 (pc' := 46) rfl ?_
  intro T46 h46 X46 e46 W46 F46
  have N46 := (Fr.snoc X46 (Fr.snoc X38 (Fr.snoc X31 (Fr.snoc X23 (Fr.snoc X15 (Fr.snoc X8 N0 ge_a1) ge_a1) ge_a1) ge_a1) ge_a1) ge_a1)
  refine g_aloadN X46 hx hby d1_46 (pc' := 47) rfl rfl rfl ?_
  refine g_iconst X46 hx hby d1_47 (pc' := 48) rfl (z := (0 : Int32)) rfl ?_
  refine Go.newarr X46 hx hZ (n := 0) (cap := 0) (ty := .long) rfl (wi hw 1 rfl) e46 (by decide) rfl (by decide) (by decide) (by decide) (by decide) (hb hby d1_48) (pc' := 50) rfl ?_
  intro T47 h47 b47 X47 e47 E47 hb47 V47
  have g48 : n0 ≤ b47 := by rw [hb47]; exact (Nat.le_trans (Nat.le_trans z39 E40.1) (Nat.le_of_eq (Wr.size W46).symm))
  have s49 : h0.size ≤ b47 := by rw [hb47]; exact (((((K28.wr W31 (Or.inl (List.mem_of_getElem? (i := 0) rfl))).ext E32).wr W38 (Or.inl (List.mem_of_getElem? (i := 0) rfl))).ext E40).wr W46 (Or.inl (List.mem_of_getElem? (i := 0) rfl))).1
  have V50 : ArF Z h47 b47 .long 0 (fun i => .long ((fun _ => (0 : Int64)) i)) := V47
  have f51 := (((((((((((((P7.ext E2).other W8 (Or.inr (sn15 hw))).ext E9).other W15 (Or.inr (sn16 hw))).ext E16).other W23 (Or.inr (sn17 hw))).ext E24).other W31 (Or.inr (sn18 hw))).ext E32).other W38 (Or.inr (sn19 hw))).ext E40).other W46 (Or.inr (sn20 hw))).ext E47)
  have f52 := ((f45.wr W46).ext E47)
  refine g_putf X47 hx hby hZ hown (host := "") (Or.inl (wi hw 26 rfl)) Via.refl e47 f51 f52 (Or.inl (wi hw 27 rfl)) (wi hw 5 rfl) (ty := (.array .long)) (by decide) rfl rfl d1_50 (pc' := 53) rfl ?_
  intro T53 h53 X53 e53 W53 F53
  have K54 : Keep h0 h53 [a1] := (((((((K28.wr W31 (Or.inl (List.mem_of_getElem? (i := 0) rfl))).ext E32).wr W38 (Or.inl (List.mem_of_getElem? (i := 0) rfl))).ext E40).wr W46 (Or.inl (List.mem_of_getElem? (i := 0) rfl))).ext E47).wr W53 (Or.inl (List.mem_of_getElem? (i := 0) rfl)))
  refine g_aloadN X53 hx hby d1_53 (pc' := 54) rfl rfl rfl ?_
  refine g_iloadN X53 hx hby d1_54 (pc' := 55) rfl rfl ?_
  have f55 := ((((((((((((((P8.ext E2).other W8 (Or.inr (sn21 hw))).ext E9).other W15 (Or.inr (sn22 hw))).ext E16).other W23 (Or.inr (sn23 hw))).ext E24).other W31 (Or.inr (sn24 hw))).ext E32).other W38 (Or.inr (sn25 hw))).ext E40).other W46 (Or.inr (sn26 hw))).ext E47).other W53 (Or.inr (sn27 hw)))
  have f56 := f52.wr W53
  obtain ⟨T57, h57, X57, e57, W57, st57⟩ := putFN X53 hx hZ hown (wi hw 28 rfl) Via.refl e53 f55 f56 (Or.inr ⟨(wi hw 29 rfl), rfl, hnm⟩) (wi hw 5 rfl) (ty := .boolean) (v' := (.int (1 : Int32))) (by decide) rfl rfl (g := (mkF m 55 #[.val (.ref a1), .val (.int (1 : Int32))] [(.int (1 : Int32)), (.ref a1)])) rfl rfl (hb hby d1_55)
  refine Go.of st57 ?_
  have F57 := f55.same W57
  have z58 : n0 ≤ h57.size := (Nat.le_trans (Nat.le_trans (Nat.le_trans (Nat.le_trans (Nat.le_trans z39 E40.1) (Nat.le_of_eq (Wr.size W46).symm)) E47.1) (Nat.le_of_eq (Wr.size W53).symm)) (Nat.le_of_eq (Wr.size W57).symm))
  show Go p.tables e below s _ _ _ (T57.setTop (mkF m 58 #[.val (.ref a1), .val (.int (1 : Int32))] []))
  refine Go.retV X57 hx hlk hret (hb hby d1_58) rfl (by decide) (by decide) ?_
  have f59 := (((((((((((((F8.ext E9).other W15 (Or.inr (sn28 hw))).ext E16).other W23 (Or.inr (sn29 hw))).ext E24).other W31 (Or.inr (sn30 hw))).ext E32).other W38 (Or.inr (sn31 hw))).ext E40).other W46 (Or.inr (sn32 hw))).ext E47).other W53 (Or.inr (sn33 hw))).other W57 (Or.inr (sn34 hw)))
  have f60 := (((((((((((F15.ext E16).other W23 (Or.inr (sn35 hw))).ext E24).other W31 (Or.inr (sn36 hw))).ext E32).other W38 (Or.inr (sn37 hw))).ext E40).other W46 (Or.inr (sn38 hw))).ext E47).other W53 (Or.inr (sn39 hw))).other W57 (Or.inr (sn40 hw)))
  have f61 := (((((((((F23.ext E24).other W31 (Or.inr (sn41 hw))).ext E32).other W38 (Or.inr (sn42 hw))).ext E40).other W46 (Or.inr (sn43 hw))).ext E47).other W53 (Or.inr (sn44 hw))).other W57 (Or.inr (sn45 hw)))
  have f62 := (((((((F31.ext E32).other W38 (Or.inr (sn46 hw))).ext E40).other W46 (Or.inr (sn47 hw))).ext E47).other W53 (Or.inr (sn48 hw))).other W57 (Or.inr (sn49 hw)))
  have f63 := (((((F38.ext E40).other W46 (Or.inr (sn50 hw))).ext E47).other W53 (Or.inr (sn51 hw))).other W57 (Or.inr (sn52 hw)))
  have f64 := (((F46.ext E47).other W53 (Or.inr (sn53 hw))).other W57 (Or.inr (sn54 hw)))
  have f65 := (F53.other W57 (Or.inr (sn55 hw)))
  rw [e57]
  have ne66 : a1 ≠ b2 := Nat.ne_of_lt (by rw [hb2]; exact P11.lt)
  have ne67 : b2 ≠ b9 := Nat.ne_of_lt (by rw [hb9]; exact (V5.other W8 (Ne.symm ne66)).lt)
  have ne68 : b2 ≠ b16 := Nat.ne_of_lt (by rw [hb16]; exact (((V5.other W8 (Ne.symm ne66)).ext E9).other W15 (Ne.symm ne66)).lt)
  have ne69 : b2 ≠ b24 := Nat.ne_of_lt (by rw [hb24]; exact (((((V5.other W8 (Ne.symm ne66)).ext E9).other W15 (Ne.symm ne66)).ext E16).other W23 (Ne.symm ne66)).lt)
  have ne70 : b2 ≠ b32 := Nat.ne_of_lt (by rw [hb32]; exact (((((((V5.other W8 (Ne.symm ne66)).ext E9).other W15 (Ne.symm ne66)).ext E16).other W23 (Ne.symm ne66)).ext E24).other W31 (Ne.symm ne66)).lt)
  have ne71 : b2 ≠ b40 := Nat.ne_of_lt (by rw [hb40]; exact (((((((((V5.other W8 (Ne.symm ne66)).ext E9).other W15 (Ne.symm ne66)).ext E16).other W23 (Ne.symm ne66)).ext E24).other W31 (Ne.symm ne66)).ext E32).other W38 (Ne.symm ne66)).lt)
  have ne72 : b2 ≠ b47 := Nat.ne_of_lt (by rw [hb47]; exact (((((((((((V5.other W8 (Ne.symm ne66)).ext E9).other W15 (Ne.symm ne66)).ext E16).other W23 (Ne.symm ne66)).ext E24).other W31 (Ne.symm ne66)).ext E32).other W38 (Ne.symm ne66)).ext E40).other W46 (Ne.symm ne66)).lt)
  have ne73 : a1 ≠ b9 := Nat.ne_of_lt (by rw [hb9]; exact F8.lt)
  have ne74 : b9 ≠ b16 := Nat.ne_of_lt (by rw [hb16]; exact (V12.other W15 (Ne.symm ne73)).lt)
  have ne75 : b9 ≠ b24 := Nat.ne_of_lt (by rw [hb24]; exact (((V12.other W15 (Ne.symm ne73)).ext E16).other W23 (Ne.symm ne73)).lt)
  have ne76 : b9 ≠ b32 := Nat.ne_of_lt (by rw [hb32]; exact (((((V12.other W15 (Ne.symm ne73)).ext E16).other W23 (Ne.symm ne73)).ext E24).other W31 (Ne.symm ne73)).lt)
  have ne77 : b9 ≠ b40 := Nat.ne_of_lt (by rw [hb40]; exact (((((((V12.other W15 (Ne.symm ne73)).ext E16).other W23 (Ne.symm ne73)).ext E24).other W31 (Ne.symm ne73)).ext E32).other W38 (Ne.symm ne73)).lt)
  have ne78 : b9 ≠ b47 := Nat.ne_of_lt (by rw [hb47]; exact (((((((((V12.other W15 (Ne.symm ne73)).ext E16).other W23 (Ne.symm ne73)).ext E24).other W31 (Ne.symm ne73)).ext E32).other W38 (Ne.symm ne73)).ext E40).other W46 (Ne.symm ne73)).lt)
  have ne79 : a1 ≠ b16 := Nat.ne_of_lt (by rw [hb16]; exact F15.lt)
  have ne80 : b16 ≠ b24 := Nat.ne_of_lt (by rw [hb24]; exact (V19.other W23 (Ne.symm ne79)).lt)
  have ne81 : b16 ≠ b32 := Nat.ne_of_lt (by rw [hb32]; exact (((V19.other W23 (Ne.symm ne79)).ext E24).other W31 (Ne.symm ne79)).lt)
  have ne82 : b16 ≠ b40 := Nat.ne_of_lt (by rw [hb40]; exact (((((V19.other W23 (Ne.symm ne79)).ext E24).other W31 (Ne.symm ne79)).ext E32).other W38 (Ne.symm ne79)).lt)
  have ne83 : b16 ≠ b47 := Nat.ne_of_lt (by rw [hb47]; exact (((((((V19.other W23 (Ne.symm ne79)).ext E24).other W31 (Ne.symm ne79)).ext E32).other W38 (Ne.symm ne79)).ext E40).other W46 (Ne.symm ne79)).lt)
  have ne84 : a1 ≠ b24 := Nat.ne_of_lt (by rw [hb24]; exact F23.lt)
  have ne85 : b24 ≠ b32 := Nat.ne_of_lt (by rw [hb32]; exact (V27.other W31 (Ne.symm ne84)).lt)
  have ne86 : b24 ≠ b40 := Nat.ne_of_lt (by rw [hb40]; exact (((V27.other W31 (Ne.symm ne84)).ext E32).other W38 (Ne.symm ne84)).lt)
  have ne87 : b24 ≠ b47 := Nat.ne_of_lt (by rw [hb47]; exact (((((V27.other W31 (Ne.symm ne84)).ext E32).other W38 (Ne.symm ne84)).ext E40).other W46 (Ne.symm ne84)).lt)
  have ne88 : a1 ≠ b32 := Nat.ne_of_lt (by rw [hb32]; exact F31.lt)
  have ne89 : b32 ≠ b40 := Nat.ne_of_lt (by rw [hb40]; exact (V35.other W38 (Ne.symm ne88)).lt)
  have ne90 : b32 ≠ b47 := Nat.ne_of_lt (by rw [hb47]; exact (((V35.other W38 (Ne.symm ne88)).ext E40).other W46 (Ne.symm ne88)).lt)
  have ne91 : a1 ≠ b40 := Nat.ne_of_lt (by rw [hb40]; exact F38.lt)
  have ne92 : b40 ≠ b47 := Nat.ne_of_lt (by rw [hb47]; exact (V43.other W46 (Ne.symm ne91)).lt)
  have f93 := (((((((((((((((P9.ext E2).other W8 (Or.inr (sn56 hw))).ext E9).other W15 (Or.inr (sn57 hw))).ext E16).other W23 (Or.inr (sn58 hw))).ext E24).other W31 (Or.inr (sn59 hw))).ext E32).other W38 (Or.inr (sn60 hw))).ext E40).other W46 (Or.inr (sn61 hw))).ext E47).other W53 (Or.inr (sn62 hw))).other W57 (Or.inr (sn63 hw)))
  have f94 := (((((((((((((((P10.ext E2).other W8 (Or.inr (sn64 hw))).ext E9).other W15 (Or.inr (sn65 hw))).ext E16).other W23 (Or.inr (sn66 hw))).ext E24).other W31 (Or.inr (sn67 hw))).ext E32).other W38 (Or.inr (sn68 hw))).ext E40).other W46 (Or.inr (sn69 hw))).ext E47).other W53 (Or.inr (sn70 hw))).other W57 (Or.inr (sn71 hw)))
  have f95 := (((((((((((((((P11.ext E2).other W8 (Or.inr (sn72 hw))).ext E9).other W15 (Or.inr (sn73 hw))).ext E16).other W23 (Or.inr (sn74 hw))).ext E24).other W31 (Or.inr (sn75 hw))).ext E32).other W38 (Or.inr (sn76 hw))).ext E40).other W46 (Or.inr (sn77 hw))).ext E47).other W53 (Or.inr (sn78 hw))).other W57 (Or.inr (sn79 hw)))
  have f96 := ((((((((((((((V5.other W8 (Ne.symm ne66)).ext E9).other W15 (Ne.symm ne66)).ext E16).other W23 (Ne.symm ne66)).ext E24).other W31 (Ne.symm ne66)).ext E32).other W38 (Ne.symm ne66)).ext E40).other W46 (Ne.symm ne66)).ext E47).other W53 (Ne.symm ne66)).other W57 (Ne.symm ne66))
  have f97 := ((((((((((((V12.other W15 (Ne.symm ne73)).ext E16).other W23 (Ne.symm ne73)).ext E24).other W31 (Ne.symm ne73)).ext E32).other W38 (Ne.symm ne73)).ext E40).other W46 (Ne.symm ne73)).ext E47).other W53 (Ne.symm ne73)).other W57 (Ne.symm ne73))
  have f98 := ((((((((((V19.other W23 (Ne.symm ne79)).ext E24).other W31 (Ne.symm ne79)).ext E32).other W38 (Ne.symm ne79)).ext E40).other W46 (Ne.symm ne79)).ext E47).other W53 (Ne.symm ne79)).other W57 (Ne.symm ne79))
  have f99 := ((((((((V27.other W31 (Ne.symm ne84)).ext E32).other W38 (Ne.symm ne84)).ext E40).other W46 (Ne.symm ne84)).ext E47).other W53 (Ne.symm ne84)).other W57 (Ne.symm ne84))
  have f100 := ((((((V35.other W38 (Ne.symm ne88)).ext E40).other W46 (Ne.symm ne88)).ext E47).other W53 (Ne.symm ne88)).other W57 (Ne.symm ne88))
  have f101 := ((((V43.other W46 (Ne.symm ne91)).ext E47).other W53 (Ne.symm ne91)).other W57 (Ne.symm ne91))
  have ne102 : a1 ≠ b47 := Nat.ne_of_lt (by rw [hb47]; exact F46.lt)
  have f103 := ((V50.other W53 (Ne.symm ne102)).other W57 (Ne.symm ne102))
  exact ⟨b2, b9, b16, b24, b32, b40, b47, rfl, (Fr.snoc X57 (Fr.snoc X53 N46 ge_a1) ge_a1), (K54.wr W57 (Or.inl (List.mem_of_getElem? (i := 0) rfl))), g3, s4, g10, s11, g17, s18, g25, s26, g33, s34, g41, s42, g48, s49, ne67, ne68, ne69, ne70, ne71, ne72, ne74, ne75, ne76, ne77, ne78, ne80, ne81, ne82, ne83, ne85, ne86, ne87, ne89, ne90, ne92, f59, f60, f61, f62, f63, f64, f65, F57, f93, f94, f95, f96, f97, f98, f99, f100, f101, f103⟩
theorem d5_0 : decode jdk_29_method_66_code 0 = .ok (.lload_n 0, 1) := by decide +kernel
theorem d5_1 : decode jdk_29_method_66_code 1 = .ok (.lload_n 2, 1) := by decide +kernel
theorem d5_2 : decode jdk_29_method_66_code 2 = .ok (.lcmp, 1) := by decide +kernel
theorem d5_3 : decode jdk_29_method_66_code 3 = .ok (.ifCond .lt 7, 3) := by decide +kernel
theorem d5_6 : decode jdk_29_method_66_code 6 = .ok (.lload_n 0, 1) := by decide +kernel
theorem d5_7 : decode jdk_29_method_66_code 7 = .ok (.goto 4, 3) := by decide +kernel
theorem d5_11 : decode jdk_29_method_66_code 11 = .ok (.lreturn, 1) := by decide +kernel
theorem ef_rm_maxJ (m : MethodId) (x0 : Int64) (x1 : Int64) : entryFrame m #[(.long x0), (.long x1)] 4 = mkF m 0 #[.val (.long x0), .second, .val (.long x1), .second] [] := by first | (simp [entryFrame, mkF, argsToLocals, Value.category]; done) | rfl
abbrev Q_rm_maxJ (Z : State) (q1 : Int64) (q2 : Int64) (h0 : Heap) (n0 : Nat) : Option Value → Heap → List Loc → Prop := fun v h L => v = some (.long q1) ∧ Fr n0 L ∧ h = h0
set_option maxRecDepth 65536 in
set_option maxHeartbeats 40000000 in
theorem rm_maxJ (l : Launch) (Z : State) (a0 : Array Value) (hw : ∀ d ∈ tables_1, d.before a0 Z = true) (q1 : Int64) (q2 : Int64) (h0 : Heap) (n0 : Nat) (Z0 : n0 ≤ h0.size) (y1 : q2.toInt ≤ q1.toInt) :
    Con l Z (⟨"java/lang/Math", "max", "(JJ)J"⟩ : MethodName) jdk_29_method_66_code 4 (some .long) ({ frames := 0, cells := 0, slots := 0, locals := 0 } : Room) #[(.long q1), (.long q2)] h0 (Q_rm_maxJ Z q1 q2 h0 n0) := by
  refine meet (y := (⟨"java/lang/Math", "max", "(JJ)J"⟩ : MethodName)) (Q := Q_rm_maxJ Z q1 q2 h0 n0) (Jvm.Free.JP.mathPlain rfl (by decide +kernel)) (fun m => ef_rm_maxJ m q1 q2) ?_
  intro p e s m below meth c T0 hx hby hml hZ hown hnm hret hlk X0 e0
  have N0 := Fr.nil n0
  refine g_lloadN X0 hx hby d5_0 (pc' := 1) rfl rfl ?_
  refine g_lloadN X0 hx hby d5_1 (pc' := 2) rfl rfl ?_
  refine g_lcmp X0 hx hby d5_2 (pc' := 3) rfl  ?_
  have hc3 : ¬ (q1.toInt < q2.toInt) := by omega
  refine g_ifNo X0 hx hby d5_3 (pc' := 6) (flt (show ¬ ((lcmpW q1 q2) < (0 : Int32)) from fun q => hc3 (Int64.lt_iff_toInt_lt.mp ((lw_lt q1 q2).mp q)))).1 rfl ?_
  refine g_lloadN X0 hx hby d5_6 (pc' := 7) rfl rfl ?_
  refine g_goto X0 hx hby d5_7 (pc' := 11) (by decide) (by decide) ?_
  refine Go.retL X0 hx hlk hret (hb hby d5_11) (by decide) (by decide) ?_
  exact ⟨rfl, N0, e0⟩
theorem d6_0 : decode jdk_29_method_70_code 0 = .ok (.lload_n 0, 1) := by decide +kernel
theorem d6_1 : decode jdk_29_method_70_code 1 = .ok (.lload_n 2, 1) := by decide +kernel
theorem d6_2 : decode jdk_29_method_70_code 2 = .ok (.lcmp, 1) := by decide +kernel
theorem d6_3 : decode jdk_29_method_70_code 3 = .ok (.ifCond .gt 7, 3) := by decide +kernel
theorem d6_10 : decode jdk_29_method_70_code 10 = .ok (.lload_n 2, 1) := by decide +kernel
theorem d6_11 : decode jdk_29_method_70_code 11 = .ok (.lreturn, 1) := by decide +kernel
theorem ef_rm_minJ (m : MethodId) (x0 : Int64) (x1 : Int64) : entryFrame m #[(.long x0), (.long x1)] 4 = mkF m 0 #[.val (.long x0), .second, .val (.long x1), .second] [] := by first | (simp [entryFrame, mkF, argsToLocals, Value.category]; done) | rfl
abbrev Q_rm_minJ (Z : State) (q1 : Int64) (q2 : Int64) (h0 : Heap) (n0 : Nat) : Option Value → Heap → List Loc → Prop := fun v h L => v = some (.long q2) ∧ Fr n0 L ∧ h = h0
set_option maxRecDepth 65536 in
set_option maxHeartbeats 40000000 in
theorem rm_minJ (l : Launch) (Z : State) (a0 : Array Value) (hw : ∀ d ∈ tables_1, d.before a0 Z = true) (q1 : Int64) (q2 : Int64) (h0 : Heap) (n0 : Nat) (Z0 : n0 ≤ h0.size) (y1 : q2.toInt < q1.toInt) :
    Con l Z (⟨"java/lang/Math", "min", "(JJ)J"⟩ : MethodName) jdk_29_method_70_code 4 (some .long) ({ frames := 0, cells := 0, slots := 0, locals := 0 } : Room) #[(.long q1), (.long q2)] h0 (Q_rm_minJ Z q1 q2 h0 n0) := by
  refine meet (y := (⟨"java/lang/Math", "min", "(JJ)J"⟩ : MethodName)) (Q := Q_rm_minJ Z q1 q2 h0 n0) (Jvm.Free.JP.mathPlain rfl (by decide +kernel)) (fun m => ef_rm_minJ m q1 q2) ?_
  intro p e s m below meth c T0 hx hby hml hZ hown hnm hret hlk X0 e0
  have N0 := Fr.nil n0
  refine g_lloadN X0 hx hby d6_0 (pc' := 1) rfl rfl ?_
  refine g_lloadN X0 hx hby d6_1 (pc' := 2) rfl rfl ?_
  refine g_lcmp X0 hx hby d6_2 (pc' := 3) rfl  ?_
  have hc3 : q2.toInt < q1.toInt := by omega
  refine g_ifYes X0 hx hby d6_3 (pc' := 10) (tlt (show (0 : Int32) < (lcmpW q1 q2) from (lw_gt q1 q2).mpr (Int64.lt_iff_toInt_lt.mpr hc3))).2.2.1 (by decide) (by decide) ?_
  refine g_lloadN X0 hx hby d6_10 (pc' := 11) rfl rfl ?_
  refine Go.retL X0 hx hlk hret (hb hby d6_11) (by decide) (by decide) ?_
  exact ⟨rfl, N0, e0⟩
theorem d9_0 : decode jdk_29_method_69_code 0 = .ok (.iload_n 0, 1) := by decide +kernel
theorem d9_1 : decode jdk_29_method_69_code 1 = .ok (.iload_n 1, 1) := by decide +kernel
theorem d9_2 : decode jdk_29_method_69_code 2 = .ok (.if_icmp .gt 7, 3) := by decide +kernel
theorem d9_5 : decode jdk_29_method_69_code 5 = .ok (.iload_n 0, 1) := by decide +kernel
theorem d9_6 : decode jdk_29_method_69_code 6 = .ok (.goto 4, 3) := by decide +kernel
theorem d9_10 : decode jdk_29_method_69_code 10 = .ok (.ireturn, 1) := by decide +kernel
theorem ef_rm_minI (m : MethodId) (x0 : Int32) (x1 : Int32) : entryFrame m #[(.int x0), (.int x1)] 2 = mkF m 0 #[.val (.int x0), .val (.int x1)] [] := by first | (simp [entryFrame, mkF, argsToLocals, Value.category]; done) | rfl
abbrev Q_rm_minI (Z : State) (i1 : Int32) (i2 : Int32) (h0 : Heap) (n0 : Nat) : Option Value → Heap → List Loc → Prop := fun v h L => v = some (.int i1) ∧ Fr n0 L ∧ h = h0
set_option maxRecDepth 65536 in
set_option maxHeartbeats 40000000 in
theorem rm_minI (l : Launch) (Z : State) (a0 : Array Value) (hw : ∀ d ∈ tables_1, d.before a0 Z = true) (i1 : Int32) (i2 : Int32) (h0 : Heap) (n0 : Nat) (Z0 : n0 ≤ h0.size) (y1 : i1.toInt ≤ i2.toInt) :
    Con l Z (⟨"java/lang/Math", "min", "(II)I"⟩ : MethodName) jdk_29_method_69_code 2 (some .int) ({ frames := 0, cells := 0, slots := 0, locals := 0 } : Room) #[(.int i1), (.int i2)] h0 (Q_rm_minI Z i1 i2 h0 n0) := by
  refine meet (y := (⟨"java/lang/Math", "min", "(II)I"⟩ : MethodName)) (Q := Q_rm_minI Z i1 i2 h0 n0) (Jvm.Free.JP.mathPlain rfl (by decide +kernel)) (fun m => ef_rm_minI m i1 i2) ?_
  intro p e s m below meth c T0 hx hby hml hZ hown hnm hret hlk X0 e0
  have N0 := Fr.nil n0
  refine g_iloadN X0 hx hby d9_0 (pc' := 1) rfl rfl ?_
  refine g_iloadN X0 hx hby d9_1 (pc' := 2) rfl rfl ?_
  have hc2 : ¬ (i2.toInt < i1.toInt) := by omega
  refine g_icmpNo X0 hx hby d9_2 (pc' := 5) (flt (show ¬ (i2 < i1) from fun q => hc2 (Int32.lt_iff_toInt_lt.mp q))).2.2.1 rfl ?_
  refine g_iloadN X0 hx hby d9_5 (pc' := 6) rfl rfl ?_
  refine g_goto X0 hx hby d9_6 (pc' := 10) (by decide) (by decide) ?_
  refine Go.retI X0 hx hlk hret (hb hby d9_10) (by decide) (by decide) ?_
  exact ⟨rfl, N0, e0⟩
theorem d4_0 : decode prog_6_method_2_code 0 = .ok (.iload_n 0, 1) := by decide +kernel
theorem d4_1 : decode prog_6_method_2_code 1 = .ok (.ldc 11, 2) := by decide +kernel
theorem d4_3 : decode prog_6_method_2_code 3 = .ok (.if_icmp .lt 13, 3) := by decide +kernel
theorem d4_16 : decode prog_6_method_2_code 16 = .ok (.ldc2_w 19, 3) := by decide +kernel
theorem d4_19 : decode prog_6_method_2_code 19 = .ok (.ldc2_w 21, 3) := by decide +kernel
theorem d4_22 : decode prog_6_method_2_code 22 = .ok (.ldc2_w 23, 3) := by decide +kernel
theorem d4_25 : decode prog_6_method_2_code 25 = .ok (.iload_n 0, 1) := by decide +kernel
theorem d4_26 : decode prog_6_method_2_code 26 = .ok (.i2l, 1) := by decide +kernel
theorem d4_27 : decode prog_6_method_2_code 27 = .ok (.lmul, 1) := by decide +kernel
theorem d4_28 : decode prog_6_method_2_code 28 = .ok (.invokestatic 25, 3) := by decide +kernel
theorem pd0 : parseMethodDescriptor "(JJ)J" = some ⟨[.long, .long], some .long⟩ := by decide +kernel
theorem d4_31 : decode prog_6_method_2_code 31 = .ok (.invokestatic 31, 3) := by decide +kernel
theorem d4_34 : decode prog_6_method_2_code 34 = .ok (.l2i, 1) := by decide +kernel
theorem d4_35 : decode prog_6_method_2_code 35 = .ok (.ireturn, 1) := by decide +kernel
theorem ef_rm_next0 (m : MethodId)  : entryFrame m #[(.int (0 : Int32))] 1 = mkF m 0 #[.val (.int (0 : Int32))] [] := by first | (simp [entryFrame, mkF, argsToLocals, Value.category]; done) | rfl
theorem pn_com_example_edgewise_edgewise_Capacity : plainName "com/example/edgewise/edgewise/Capacity" = true := by first | (simp [plainName, overriddenIn]; done) | decide +kernel
abbrev Q_rm_next0 (Z : State)  (h0 : Heap) (n0 : Nat) : Option Value → Heap → List Loc → Prop := fun v h L => v = some (.int (4 : Int32)) ∧ Fr n0 L ∧ h = h0
set_option maxRecDepth 65536 in
set_option maxHeartbeats 40000000 in
theorem rm_next0 (l : Launch) (Z : State) (a0 : Array Value) (hw : ∀ d ∈ tables_1, d.before a0 Z = true)  (h0 : Heap) (n0 : Nat) (Z0 : n0 ≤ h0.size)  :
    Con l Z (⟨"com/example/edgewise/edgewise/Capacity", "next", "(I)I"⟩ : MethodName) prog_6_method_2_code 1 (some .int) ({ frames := 1, cells := 0, slots := 0, locals := 17 } : Room) #[(.int (0 : Int32))] h0 (Q_rm_next0 Z  h0 n0) := by
  refine meet (y := (⟨"com/example/edgewise/edgewise/Capacity", "next", "(I)I"⟩ : MethodName)) (Q := Q_rm_next0 Z  h0 n0) (plainFor_of_name pn_com_example_edgewise_edgewise_Capacity) (fun m => ef_rm_next0 m ) ?_
  intro p e s m below meth c T0 hx hby hml hZ hown hnm hret hlk X0 e0
  have N0 := Fr.nil n0
  refine g_iloadN X0 hx hby d4_0 (pc' := 1) rfl rfl ?_
  refine g_ldcI X0 hx hby hZ hown (wi hw 41 rfl) d4_1 (pc' := 3) rfl ?_
  have hc3 : (0 : Int) < (2147483639 : Int) := by decide
  refine g_icmpYes X0 hx hby d4_3 (pc' := 16) (tlt (show (0 : Int32) < (2147483639 : Int32) from Int32.lt_iff_toInt_lt.mpr hc3)).1 (by decide) (by decide) ?_
  refine g_ldcL X0 hx hby hZ hown (wi hw 42 rfl) d4_16 (pc' := 19) rfl ?_
  refine g_ldcL X0 hx hby hZ hown (wi hw 43 rfl) d4_19 (pc' := 22) rfl ?_
  refine g_ldcL X0 hx hby hZ hown (wi hw 44 rfl) d4_22 (pc' := 25) rfl ?_
  refine g_iloadN X0 hx hby d4_25 (pc' := 26) rfl rfl ?_
  refine g_i2l X0 hx hby d4_26 (pc' := 27) rfl (z := (0 : Int64)) rfl ?_
  refine g_lmul X0 hx hby d4_27 (pc' := 28) rfl (z := (0 : Int64)) rfl ?_
  refine Go.callS X0 hx hZ hown (wi hw 45 rfl) (wi hw 46 rfl) (wi hw 47 rfl) (wi hw 48 rfl) (by decide) e0 (argsL := [(.long (4 : Int64)), (.long (0 : Int64))]) (rest := [(.long (2147483639 : Int64))]) (W := 2) (rm_maxJ l Z a0 hw (4 : Int64) (0 : Int64) h0 n0 Z0 (by decide)) (hb hby d4_28) (by rw [hml]; rfl) rfl pd0 rfl rfl (by decide) (by decide) (by decide) (by decide) ?_
  intro v1 T1 L1 X1 hQ1
  obtain ⟨rfl, Nq1, hh1⟩ := hQ1
  have N1 := Fr.app N0 Nq1
  refine Go.push (pc' := 31) rfl ?_
  refine Go.callS X1 hx hZ hown (wi hw 49 rfl) (wi hw 50 rfl) (wi hw 47 rfl) (wi hw 51 rfl) (by decide) hh1 (argsL := [(.long (2147483639 : Int64)), (.long (4 : Int64))]) (rest := []) (W := 0) (rm_minJ l Z a0 hw (2147483639 : Int64) (4 : Int64) h0 n0 Z0 (by decide)) (hb hby d4_31) (by rw [hml]; rfl) rfl pd0 rfl rfl (by decide) (by decide) (by decide) (by decide) ?_
  intro v2 T2 L2 X2 hQ2
  obtain ⟨rfl, Nq2, hh2⟩ := hQ2
  have N2 := Fr.app N1 Nq2
  refine Go.push (pc' := 34) rfl ?_
  refine g_l2i X2 hx hby d4_34 (pc' := 35) rfl (z := (4 : Int32)) rfl ?_
  refine Go.retI X2 hx hlk hret (hb hby d4_35) (by decide) (by decide) ?_
  exact ⟨rfl, N2, hh2⟩
theorem d8_0 : decode jdk_65_method_123_code 0 = .ok (.iload_n 1, 1) := by decide +kernel
theorem d8_1 : decode jdk_65_method_123_code 1 = .ok (.aload_n 0, 1) := by decide +kernel
theorem d8_2 : decode jdk_65_method_123_code 2 = .ok (.arraylength, 1) := by decide +kernel
theorem d8_3 : decode jdk_65_method_123_code 3 = .ok (.if_icmp .ne 11, 3) := by decide +kernel
theorem d8_14 : decode jdk_65_method_123_code 14 = .ok (.iload_n 1, 1) := by decide +kernel
theorem d8_15 : decode jdk_65_method_123_code 15 = .ok (.newarray .int, 2) := by decide +kernel
theorem d8_17 : decode jdk_65_method_123_code 17 = .ok (.astore_n 2, 1) := by decide +kernel
theorem d8_18 : decode jdk_65_method_123_code 18 = .ok (.aload_n 0, 1) := by decide +kernel
theorem d8_19 : decode jdk_65_method_123_code 19 = .ok (.iconst 0, 1) := by decide +kernel
theorem d8_20 : decode jdk_65_method_123_code 20 = .ok (.aload_n 2, 1) := by decide +kernel
theorem d8_21 : decode jdk_65_method_123_code 21 = .ok (.iconst 0, 1) := by decide +kernel
theorem d8_22 : decode jdk_65_method_123_code 22 = .ok (.aload_n 0, 1) := by decide +kernel
theorem d8_23 : decode jdk_65_method_123_code 23 = .ok (.arraylength, 1) := by decide +kernel
theorem d8_24 : decode jdk_65_method_123_code 24 = .ok (.iload_n 1, 1) := by decide +kernel
theorem d8_25 : decode jdk_65_method_123_code 25 = .ok (.invokestatic 304, 3) := by decide +kernel
theorem pd1 : parseMethodDescriptor "(II)I" = some ⟨[.int, .int], some .int⟩ := by decide +kernel
theorem d8_28 : decode jdk_65_method_123_code 28 = .ok (.invokestatic 150, 3) := by decide +kernel
theorem d8_31 : decode jdk_65_method_123_code 31 = .ok (.aload_n 2, 1) := by decide +kernel
theorem d8_32 : decode jdk_65_method_123_code 32 = .ok (.areturn, 1) := by decide +kernel
theorem ef_rm_copyI (m : MethodId) (x0 : Addr) : entryFrame m #[(.ref x0), (.int (4 : Int32))] 3 = mkF m 0 #[.val (.ref x0), .val (.int (4 : Int32)), .unset] [] := by first | (simp [entryFrame, mkF, argsToLocals, Value.category]; done) | rfl
theorem pn_java_util_Arrays : plainName "java/util/Arrays" = true := by first | (simp [plainName, overriddenIn]; done) | decide +kernel
abbrev Q_rm_copyI (Z : State) (x1 : Addr) (g1 : Nat → Int32) (h0 : Heap) (n0 : Nat) : Option Value → Heap → List Loc → Prop := fun v h L => ∃ (b1 : Addr), v = some (.ref b1) ∧ Fr n0 L ∧ Keep h0 h [] ∧ n0 ≤ b1 ∧ h0.size ≤ b1 ∧ ArF Z h b1 .int 4 (fun i => .int ((fun _ => (0 : Int32)) i))
set_option maxRecDepth 65536 in
set_option maxHeartbeats 40000000 in
theorem rm_copyI (l : Launch) (Z : State) (a0 : Array Value) (hw : ∀ d ∈ tables_1, d.before a0 Z = true) (x1 : Addr) (g1 : Nat → Int32) (h0 : Heap) (n0 : Nat) (Z0 : n0 ≤ h0.size) (P0 : ArF Z h0 x1 .int 0 (fun i => .int (g1 i))) :
    Con l Z (⟨"java/util/Arrays", "copyOf", "([II)[I"⟩ : MethodName) jdk_65_method_123_code 3 (some (.array .int)) ({ frames := 1, cells := 1, slots := 4, locals := 40 } : Room) #[(.ref x1), (.int (4 : Int32))] h0 (Q_rm_copyI Z x1 g1 h0 n0) := by
  refine meet (y := (⟨"java/util/Arrays", "copyOf", "([II)[I"⟩ : MethodName)) (Q := Q_rm_copyI Z x1 g1 h0 n0) (plainFor_of_name pn_java_util_Arrays) (fun m => ef_rm_copyI m x1) ?_
  intro p e s m below meth c T0 hx hby hml hZ hown hnm hret hlk X0 e0
  have N0 := Fr.nil n0
  have K0 := Keep.refl h0 []
  refine g_iloadN X0 hx hby d8_0 (pc' := 1) rfl rfl ?_
  refine g_aloadN X0 hx hby d8_1 (pc' := 2) rfl rfl rfl ?_
  refine Go.alen X0 hx hZ e0 P0 (z := (0 : Int32)) rfl (hb hby d8_2) (pc' := 3) rfl ?_
  have hc3 : ¬ ((4 : Int) = (0 : Int)) := by decide
  refine g_icmpYes X0 hx hby d8_3 (pc' := 14) (feq (show ¬ ((4 : Int32) = (0 : Int32)) from fun q => hc3 (congrArg Int32.toInt q))).2 (by decide) (by decide) ?_
  refine g_iloadN X0 hx hby d8_14 (pc' := 15) rfl rfl ?_
  refine Go.newarr X0 hx hZ (n := 4) (cap := 4) (ty := .int) rfl (wi hw 0 rfl) e0 (by decide) rfl (by decide) (by decide) (by decide) (by decide) (hb hby d8_15) (pc' := 17) rfl ?_
  intro T1 h1 b1 X1 e1 E1 hb1 V1
  have g2 : n0 ≤ b1 := by rw [hb1]; exact Z0
  have s3 : h0.size ≤ b1 := by rw [hb1]; exact K0.1
  have V4 : ArF Z h1 b1 .int 4 (fun i => .int ((fun _ => (0 : Int32)) i)) := V1
  refine g_astoreN X1 hx hby d8_17 (pc' := 18) rfl rfl (L' := #[.val (.ref x1), .val (.int (4 : Int32)), .val (.ref b1)]) rfl ?_
  refine g_aloadN X1 hx hby d8_18 (pc' := 19) rfl rfl rfl ?_
  refine g_iconst X1 hx hby d8_19 (pc' := 20) rfl (z := (0 : Int32)) rfl ?_
  refine g_aloadN X1 hx hby d8_20 (pc' := 21) rfl rfl rfl ?_
  refine g_iconst X1 hx hby d8_21 (pc' := 22) rfl (z := (0 : Int32)) rfl ?_
  refine g_aloadN X1 hx hby d8_22 (pc' := 23) rfl rfl rfl ?_
  have f5 := P0.ext E1
  refine Go.alen X1 hx hZ e1 f5 (z := (0 : Int32)) rfl (hb hby d8_23) (pc' := 24) rfl ?_
  refine g_iloadN X1 hx hby d8_24 (pc' := 25) rfl rfl ?_
  refine Go.callS X1 hx hZ hown (wi hw 60 rfl) (wi hw 61 rfl) (wi hw 47 rfl) (wi hw 62 rfl) (by decide) e1 (argsL := [(.int (0 : Int32)), (.int (4 : Int32))]) (rest := [(.int (0 : Int32)), (.ref b1), (.int (0 : Int32)), (.ref x1)]) (W := 4) (rm_minI l Z a0 hw (0 : Int32) (4 : Int32) h1 n0 (Nat.le_trans Z0 E1.1) (by decide)) (hb hby d8_25) (by rw [hml]; rfl) rfl pd1 rfl rfl (by decide) (by decide) (by decide) (by decide) ?_
  intro v6 T6 L6 X6 hQ6
  obtain ⟨rfl, Nq6, hh6⟩ := hQ6
  have N6 := Fr.app N0 Nq6
  refine Go.push (pc' := 28) rfl ?_
  refine Go.arraycopy X6 hx hZ hown (wi hw 63 rfl) (wi hw 66 rfl) (wi hw 64 rfl) (wi hw 65 rfl) hh6 f5 V4 rfl (ks := 0) (kd := 0) (kn := 0) rfl rfl rfl (by decide) (by decide) N6 g2 (by rw [hml]; rfl) (hb hby d8_28) (pc' := 31) rfl (by decide) (W := 0) rfl (by decide) ?_
  intro T7 h7 L7 X7 e7 N7 K7 V7
  refine g_aloadN X7 hx hby d8_31 (pc' := 32) rfl rfl rfl ?_
  refine Go.retA X7 hx hlk hret rfl rfl (hb hby d8_32) (by decide) (by decide) ?_
  have VC : ArF Z h7 b1 .int 4 (fun i => .int ((fun _ => (0 : Int32)) i)) := (V7.cpI).congr (fun i hi => by simp [cpT])
  rw [e7]
  exact ⟨b1, rfl, N7, ((K0.ext E1).trans K7 (allS (Or.inr s3) all0)), g2, s3, VC⟩
theorem d10_0 : decode jdk_65_method_127_code 0 = .ok (.iload_n 1, 1) := by decide +kernel
theorem d10_1 : decode jdk_65_method_127_code 1 = .ok (.aload_n 0, 1) := by decide +kernel
theorem d10_2 : decode jdk_65_method_127_code 2 = .ok (.arraylength, 1) := by decide +kernel
theorem d10_3 : decode jdk_65_method_127_code 3 = .ok (.if_icmp .ne 11, 3) := by decide +kernel
theorem d10_14 : decode jdk_65_method_127_code 14 = .ok (.iload_n 1, 1) := by decide +kernel
theorem d10_15 : decode jdk_65_method_127_code 15 = .ok (.newarray .double, 2) := by decide +kernel
theorem d10_17 : decode jdk_65_method_127_code 17 = .ok (.astore_n 2, 1) := by decide +kernel
theorem d10_18 : decode jdk_65_method_127_code 18 = .ok (.aload_n 0, 1) := by decide +kernel
theorem d10_19 : decode jdk_65_method_127_code 19 = .ok (.iconst 0, 1) := by decide +kernel
theorem d10_20 : decode jdk_65_method_127_code 20 = .ok (.aload_n 2, 1) := by decide +kernel
theorem d10_21 : decode jdk_65_method_127_code 21 = .ok (.iconst 0, 1) := by decide +kernel
theorem d10_22 : decode jdk_65_method_127_code 22 = .ok (.aload_n 0, 1) := by decide +kernel
theorem d10_23 : decode jdk_65_method_127_code 23 = .ok (.arraylength, 1) := by decide +kernel
theorem d10_24 : decode jdk_65_method_127_code 24 = .ok (.iload_n 1, 1) := by decide +kernel
theorem d10_25 : decode jdk_65_method_127_code 25 = .ok (.invokestatic 304, 3) := by decide +kernel
theorem d10_28 : decode jdk_65_method_127_code 28 = .ok (.invokestatic 150, 3) := by decide +kernel
theorem d10_31 : decode jdk_65_method_127_code 31 = .ok (.aload_n 2, 1) := by decide +kernel
theorem d10_32 : decode jdk_65_method_127_code 32 = .ok (.areturn, 1) := by decide +kernel
theorem ef_rm_copyD (m : MethodId) (x0 : Addr) : entryFrame m #[(.ref x0), (.int (4 : Int32))] 3 = mkF m 0 #[.val (.ref x0), .val (.int (4 : Int32)), .unset] [] := by first | (simp [entryFrame, mkF, argsToLocals, Value.category]; done) | rfl
abbrev Q_rm_copyD (Z : State) (x1 : Addr) (g1 : Nat → UInt64) (h0 : Heap) (n0 : Nat) : Option Value → Heap → List Loc → Prop := fun v h L => ∃ (b1 : Addr), v = some (.ref b1) ∧ Fr n0 L ∧ Keep h0 h [] ∧ n0 ≤ b1 ∧ h0.size ≤ b1 ∧ ArF Z h b1 .double 4 (fun i => .double ((fun _ => (0 : UInt64)) i))
set_option maxRecDepth 65536 in
set_option maxHeartbeats 40000000 in
theorem rm_copyD (l : Launch) (Z : State) (a0 : Array Value) (hw : ∀ d ∈ tables_1, d.before a0 Z = true) (x1 : Addr) (g1 : Nat → UInt64) (h0 : Heap) (n0 : Nat) (Z0 : n0 ≤ h0.size) (P0 : ArF Z h0 x1 .double 0 (fun i => .double (g1 i))) :
    Con l Z (⟨"java/util/Arrays", "copyOf", "([DI)[D"⟩ : MethodName) jdk_65_method_127_code 3 (some (.array .double)) ({ frames := 1, cells := 1, slots := 4, locals := 40 } : Room) #[(.ref x1), (.int (4 : Int32))] h0 (Q_rm_copyD Z x1 g1 h0 n0) := by
  refine meet (y := (⟨"java/util/Arrays", "copyOf", "([DI)[D"⟩ : MethodName)) (Q := Q_rm_copyD Z x1 g1 h0 n0) (plainFor_of_name pn_java_util_Arrays) (fun m => ef_rm_copyD m x1) ?_
  intro p e s m below meth c T0 hx hby hml hZ hown hnm hret hlk X0 e0
  have N0 := Fr.nil n0
  have K0 := Keep.refl h0 []
  refine g_iloadN X0 hx hby d10_0 (pc' := 1) rfl rfl ?_
  refine g_aloadN X0 hx hby d10_1 (pc' := 2) rfl rfl rfl ?_
  refine Go.alen X0 hx hZ e0 P0 (z := (0 : Int32)) rfl (hb hby d10_2) (pc' := 3) rfl ?_
  have hc3 : ¬ ((4 : Int) = (0 : Int)) := by decide
  refine g_icmpYes X0 hx hby d10_3 (pc' := 14) (feq (show ¬ ((4 : Int32) = (0 : Int32)) from fun q => hc3 (congrArg Int32.toInt q))).2 (by decide) (by decide) ?_
  refine g_iloadN X0 hx hby d10_14 (pc' := 15) rfl rfl ?_
  refine Go.newarr X0 hx hZ (n := 4) (cap := 4) (ty := .double) rfl (wi hw 21 rfl) e0 (by decide) rfl (by decide) (by decide) (by decide) (by decide) (hb hby d10_15) (pc' := 17) rfl ?_
  intro T1 h1 b1 X1 e1 E1 hb1 V1
  have g2 : n0 ≤ b1 := by rw [hb1]; exact Z0
  have s3 : h0.size ≤ b1 := by rw [hb1]; exact K0.1
  have V4 : ArF Z h1 b1 .double 4 (fun i => .double ((fun _ => (0 : UInt64)) i)) := V1
  refine g_astoreN X1 hx hby d10_17 (pc' := 18) rfl rfl (L' := #[.val (.ref x1), .val (.int (4 : Int32)), .val (.ref b1)]) rfl ?_
  refine g_aloadN X1 hx hby d10_18 (pc' := 19) rfl rfl rfl ?_
  refine g_iconst X1 hx hby d10_19 (pc' := 20) rfl (z := (0 : Int32)) rfl ?_
  refine g_aloadN X1 hx hby d10_20 (pc' := 21) rfl rfl rfl ?_
  refine g_iconst X1 hx hby d10_21 (pc' := 22) rfl (z := (0 : Int32)) rfl ?_
  refine g_aloadN X1 hx hby d10_22 (pc' := 23) rfl rfl rfl ?_
  have f5 := P0.ext E1
  refine Go.alen X1 hx hZ e1 f5 (z := (0 : Int32)) rfl (hb hby d10_23) (pc' := 24) rfl ?_
  refine g_iloadN X1 hx hby d10_24 (pc' := 25) rfl rfl ?_
  refine Go.callS X1 hx hZ hown (wi hw 60 rfl) (wi hw 61 rfl) (wi hw 47 rfl) (wi hw 62 rfl) (by decide) e1 (argsL := [(.int (0 : Int32)), (.int (4 : Int32))]) (rest := [(.int (0 : Int32)), (.ref b1), (.int (0 : Int32)), (.ref x1)]) (W := 4) (rm_minI l Z a0 hw (0 : Int32) (4 : Int32) h1 n0 (Nat.le_trans Z0 E1.1) (by decide)) (hb hby d10_25) (by rw [hml]; rfl) rfl pd1 rfl rfl (by decide) (by decide) (by decide) (by decide) ?_
  intro v6 T6 L6 X6 hQ6
  obtain ⟨rfl, Nq6, hh6⟩ := hQ6
  have N6 := Fr.app N0 Nq6
  refine Go.push (pc' := 28) rfl ?_
  refine Go.arraycopy X6 hx hZ hown (wi hw 63 rfl) (wi hw 66 rfl) (wi hw 64 rfl) (wi hw 65 rfl) hh6 f5 V4 rfl (ks := 0) (kd := 0) (kn := 0) rfl rfl rfl (by decide) (by decide) N6 g2 (by rw [hml]; rfl) (hb hby d10_28) (pc' := 31) rfl (by decide) (W := 0) rfl (by decide) ?_
  intro T7 h7 L7 X7 e7 N7 K7 V7
  refine g_aloadN X7 hx hby d10_31 (pc' := 32) rfl rfl rfl ?_
  refine Go.retA X7 hx hlk hret rfl rfl (hb hby d10_32) (by decide) (by decide) ?_
  have VC : ArF Z h7 b1 .double 4 (fun i => .double ((fun _ => (0 : UInt64)) i)) := (V7.cpD).congr (fun i hi => by simp [cpT])
  rw [e7]
  exact ⟨b1, rfl, N7, ((K0.ext E1).trans K7 (allS (Or.inr s3) all0)), g2, s3, VC⟩
theorem d7_0 : decode prog_12_method_22_code 0 = .ok (.aload_n 0, 1) := by decide +kernel
theorem d7_1 : decode prog_12_method_22_code 1 = .ok (.aload_n 0, 1) := by decide +kernel
theorem d7_2 : decode prog_12_method_22_code 2 = .ok (.getfield 7, 3) := by decide +kernel
theorem d7_5 : decode prog_12_method_22_code 5 = .ok (.iload_n 1, 1) := by decide +kernel
theorem d7_6 : decode prog_12_method_22_code 6 = .ok (.invokestatic 87, 3) := by decide +kernel
theorem pd2 : parseMethodDescriptor "([II)[I" = some ⟨[(.array .int), .int], some (.array .int)⟩ := by decide +kernel
theorem d7_9 : decode prog_12_method_22_code 9 = .ok (.putfield 7, 3) := by decide +kernel
theorem d7_12 : decode prog_12_method_22_code 12 = .ok (.aload_n 0, 1) := by decide +kernel
theorem d7_13 : decode prog_12_method_22_code 13 = .ok (.aload_n 0, 1) := by decide +kernel
theorem d7_14 : decode prog_12_method_22_code 14 = .ok (.getfield 13, 3) := by decide +kernel
theorem d7_17 : decode prog_12_method_22_code 17 = .ok (.iload_n 1, 1) := by decide +kernel
theorem d7_18 : decode prog_12_method_22_code 18 = .ok (.invokestatic 87, 3) := by decide +kernel
theorem d7_21 : decode prog_12_method_22_code 21 = .ok (.putfield 13, 3) := by decide +kernel
theorem d7_24 : decode prog_12_method_22_code 24 = .ok (.aload_n 0, 1) := by decide +kernel
theorem d7_25 : decode prog_12_method_22_code 25 = .ok (.aload_n 0, 1) := by decide +kernel
theorem d7_26 : decode prog_12_method_22_code 26 = .ok (.getfield 16, 3) := by decide +kernel
theorem d7_29 : decode prog_12_method_22_code 29 = .ok (.iload_n 1, 1) := by decide +kernel
theorem d7_30 : decode prog_12_method_22_code 30 = .ok (.invokestatic 87, 3) := by decide +kernel
theorem d7_33 : decode prog_12_method_22_code 33 = .ok (.putfield 16, 3) := by decide +kernel
theorem d7_36 : decode prog_12_method_22_code 36 = .ok (.aload_n 0, 1) := by decide +kernel
theorem d7_37 : decode prog_12_method_22_code 37 = .ok (.aload_n 0, 1) := by decide +kernel
theorem d7_38 : decode prog_12_method_22_code 38 = .ok (.getfield 19, 3) := by decide +kernel
theorem d7_41 : decode prog_12_method_22_code 41 = .ok (.iload_n 1, 1) := by decide +kernel
theorem d7_42 : decode prog_12_method_22_code 42 = .ok (.invokestatic 87, 3) := by decide +kernel
theorem d7_45 : decode prog_12_method_22_code 45 = .ok (.putfield 19, 3) := by decide +kernel
theorem d7_48 : decode prog_12_method_22_code 48 = .ok (.aload_n 0, 1) := by decide +kernel
theorem d7_49 : decode prog_12_method_22_code 49 = .ok (.aload_n 0, 1) := by decide +kernel
theorem d7_50 : decode prog_12_method_22_code 50 = .ok (.getfield 22, 3) := by decide +kernel
theorem d7_53 : decode prog_12_method_22_code 53 = .ok (.iload_n 1, 1) := by decide +kernel
theorem d7_54 : decode prog_12_method_22_code 54 = .ok (.invokestatic 91, 3) := by decide +kernel
theorem pd3 : parseMethodDescriptor "([DI)[D" = some ⟨[(.array .double), .int], some (.array .double)⟩ := by decide +kernel
theorem d7_57 : decode prog_12_method_22_code 57 = .ok (.putfield 22, 3) := by decide +kernel
theorem d7_60 : decode prog_12_method_22_code 60 = .ok (.aload_n 0, 1) := by decide +kernel
theorem d7_61 : decode prog_12_method_22_code 61 = .ok (.getfield 33, 3) := by decide +kernel
theorem d7_64 : decode prog_12_method_22_code 64 = .ok (.ifCond .eq 15, 3) := by decide +kernel
theorem d7_79 : decode prog_12_method_22_code 79 = .ok (.return_, 1) := by decide +kernel
theorem ef_rm_resize0 (m : MethodId) (x0 : Addr) : entryFrame m #[(.ref x0), (.int (4 : Int32))] 2 = mkF m 0 #[.val (.ref x0), .val (.int (4 : Int32))] [] := by first | (simp [entryFrame, mkF, argsToLocals, Value.category]; done) | rfl
abbrev Q_rm_resize0 (Z : State) (a1 : Addr) (x1 : Addr) (x2 : Addr) (x3 : Addr) (x4 : Addr) (x5 : Addr) (x6 : Addr) (x7 : Addr) (g1 : Nat → Int32) (g2 : Nat → Int32) (g3 : Nat → Int32) (g4 : Nat → Int32) (g5 : Nat → UInt64) (g6 : Nat → Int32) (t1 : Int32) (t2 : Int32) (u1 : Int64) (h0 : Heap) (n0 : Nat) : Option Value → Heap → List Loc → Prop := fun v h L => ∃ (b1 : Addr) (b2 : Addr) (b3 : Addr) (b4 : Addr) (b5 : Addr), v = none ∧ Fr n0 L ∧ Keep h0 h [a1] ∧ n0 ≤ b1 ∧ h0.size ≤ b1 ∧ n0 ≤ b2 ∧ h0.size ≤ b2 ∧ n0 ≤ b3 ∧ h0.size ≤ b3 ∧ n0 ≤ b4 ∧ h0.size ≤ b4 ∧ n0 ≤ b5 ∧ h0.size ≤ b5 ∧ b1 ≠ b2 ∧ b1 ≠ b3 ∧ b1 ≠ b4 ∧ b1 ≠ b5 ∧ b2 ≠ b3 ∧ b2 ≠ b4 ∧ b2 ≠ b5 ∧ b3 ≠ b4 ∧ b3 ≠ b5 ∧ b4 ≠ b5 ∧ Fld Z h a1 kES "keyed" "Z" (.int (0 : Int32)) ∧ Fld Z h a1 kES "keptNumbers" "[J" (.ref x7) ∧ Fld Z h a1 kES "sources" "[I" (.ref b1) ∧ Fld Z h a1 kES "targets" "[I" (.ref b2) ∧ Fld Z h a1 kES "sourcePositions" "[I" (.ref b3) ∧ Fld Z h a1 kES "targetPositions" "[I" (.ref b4) ∧ Fld Z h a1 kES "weights" "[D" (.ref b5) ∧ Fld Z h a1 kES "keys" "[I" (.ref x6) ∧ Fld Z h a1 kES "bound" "I" (.int t1) ∧ Fld Z h a1 kES "count" "I" (.int t2) ∧ Fld Z h a1 kES "nextNumber" "J" (.long u1) ∧ ArF Z h b1 .int 4 (fun i => .int ((fun _ => (0 : Int32)) i)) ∧ ArF Z h b2 .int 4 (fun i => .int ((fun _ => (0 : Int32)) i)) ∧ ArF Z h b3 .int 4 (fun i => .int ((fun _ => (0 : Int32)) i)) ∧ ArF Z h b4 .int 4 (fun i => .int ((fun _ => (0 : Int32)) i)) ∧ ArF Z h b5 .double 4 (fun i => .double ((fun _ => (0 : UInt64)) i))
set_option maxRecDepth 65536 in
set_option maxHeartbeats 40000000 in
theorem rm_resize0 (l : Launch) (Z : State) (a0 : Array Value) (hw : ∀ d ∈ tables_1, d.before a0 Z = true) (a1 : Addr) (x1 : Addr) (x2 : Addr) (x3 : Addr) (x4 : Addr) (x5 : Addr) (x6 : Addr) (x7 : Addr) (g1 : Nat → Int32) (g2 : Nat → Int32) (g3 : Nat → Int32) (g4 : Nat → Int32) (g5 : Nat → UInt64) (g6 : Nat → Int32) (t1 : Int32) (t2 : Int32) (u1 : Int64) (h0 : Heap) (n0 : Nat) (Z0 : n0 ≤ h0.size) (P0 : Exa Z h0 a1 kES) (P1 : Fld Z h0 a1 kES "keyed" "Z" (.int (0 : Int32))) (P2 : Fld Z h0 a1 kES "keptNumbers" "[J" (.ref x7)) (P3 : Fld Z h0 a1 kES "sources" "[I" (.ref x1)) (P4 : Fld Z h0 a1 kES "targets" "[I" (.ref x2)) (P5 : Fld Z h0 a1 kES "sourcePositions" "[I" (.ref x3)) (P6 : Fld Z h0 a1 kES "targetPositions" "[I" (.ref x4)) (P7 : Fld Z h0 a1 kES "weights" "[D" (.ref x5)) (P8 : Fld Z h0 a1 kES "keys" "[I" (.ref x6)) (P9 : ArF Z h0 x1 .int 0 (fun i => .int (g1 i))) (P10 : ArF Z h0 x2 .int 0 (fun i => .int (g2 i))) (P11 : ArF Z h0 x3 .int 0 (fun i => .int (g3 i))) (P12 : ArF Z h0 x4 .int 0 (fun i => .int (g4 i))) (P13 : ArF Z h0 x5 .double 0 (fun i => .double (g5 i))) (P14 : ArF Z h0 x6 .int 0 (fun i => .int (g6 i))) (P15 : Fld Z h0 a1 kES "bound" "I" (.int t1)) (P16 : Fld Z h0 a1 kES "count" "I" (.int t2)) (P17 : Fld Z h0 a1 kES "nextNumber" "J" (.long u1)) (ne_x1_a1 : x1 ≠ a1) (ne_x2_a1 : x2 ≠ a1) (ne_x3_a1 : x3 ≠ a1) (ne_x4_a1 : x4 ≠ a1) (ne_x5_a1 : x5 ≠ a1) (ne_x6_a1 : x6 ≠ a1) (ge_a1 : n0 ≤ a1) :
    Con l Z (⟨"com/example/edgewise/edgewise/EdgeSlots", "resize", "(I)V"⟩ : MethodName) prog_12_method_22_code 2 none ({ frames := 2, cells := 5, slots := 20, locals := 55 } : Room) #[(.ref a1), (.int (4 : Int32))] h0 (Q_rm_resize0 Z a1 x1 x2 x3 x4 x5 x6 x7 g1 g2 g3 g4 g5 g6 t1 t2 u1 h0 n0) := by
  refine meet (y := (⟨"com/example/edgewise/edgewise/EdgeSlots", "resize", "(I)V"⟩ : MethodName)) (Q := Q_rm_resize0 Z a1 x1 x2 x3 x4 x5 x6 x7 g1 g2 g3 g4 g5 g6 t1 t2 u1 h0 n0) (plainFor_of_name pn_com_example_edgewise_edgewise_EdgeSlots) (fun m => ef_rm_resize0 m a1) ?_
  intro p e s m below meth c T0 hx hby hml hZ hown hnm hret hlk X0 e0
  have N0 := Fr.nil n0
  have K0 := Keep.refl h0 [a1]
  refine g_aloadN X0 hx hby d7_0 (pc' := 1) rfl rfl rfl ?_
  refine g_aloadN X0 hx hby d7_1 (pc' := 2) rfl rfl rfl ?_
  refine g_getf X0 hx hby hZ hown (host := "") (Or.inl (wi hw 13 rfl)) Via.refl e0 P3 d7_2 (pc' := 5) rfl ?_
  intro T1 X1 e1
  refine g_iloadN X1 hx hby d7_5 (pc' := 6) rfl rfl ?_
  refine Go.callS X1 hx hZ hown (wi hw 56 rfl) (wi hw 57 rfl) (wi hw 58 rfl) (wi hw 59 rfl) (by decide) e1 (argsL := [(.ref x1), (.int (4 : Int32))]) (rest := [(.ref a1)]) (W := 1) (rm_copyI l Z a0 hw x1 g1 h0 n0 Z0 P9) (hb hby d7_6) (by rw [hml]; rfl) rfl pd2 rfl rfl (by decide) (by decide) (by decide) (by decide) ?_
  intro v2 T2 L2 X2 hQ2
  obtain ⟨h2, e2⟩ : ∃ z, T2.heap = z := ⟨_, rfl⟩
  rw [e2] at hQ2
  obtain ⟨b1_2, rfl, Nq2, Kq2, gqb1_2, sqb1_2, Fq0_2⟩ := hQ2
  have N2 := Fr.app N0 Nq2
  have s3 : h0.size ≤ b1_2 := Nat.le_trans K0.1 sqb1_2
  refine Go.push (pc' := 9) rfl ?_
  have f4 := P3.keep Kq2 nin0
  have f5 := P0.keep Kq2
  refine g_putf X2 hx hby hZ hown (host := "") (Or.inl (wi hw 13 rfl)) Via.refl e2 f4 f5 (Or.inl (wi hw 14 rfl)) (wi hw 5 rfl) (ty := (.array .int)) (by decide) rfl rfl d7_9 (pc' := 12) rfl ?_
  intro T6 h6 X6 e6 W6 F6
  refine g_aloadN X6 hx hby d7_12 (pc' := 13) rfl rfl rfl ?_
  refine g_aloadN X6 hx hby d7_13 (pc' := 14) rfl rfl rfl ?_
  have f7 := ((P4.keep Kq2 nin0).other W6 (Or.inr (sn0 hw)))
  refine g_getf X6 hx hby hZ hown (host := "") (Or.inl (wi hw 15 rfl)) Via.refl e6 f7 d7_14 (pc' := 17) rfl ?_
  intro T8 X8 e8
  refine g_iloadN X8 hx hby d7_17 (pc' := 18) rfl rfl ?_
  have f10 := ((P10.keep Kq2 nin0).other W6 ne_x2_a1)
  refine Go.callS X8 hx hZ hown (wi hw 56 rfl) (wi hw 57 rfl) (wi hw 58 rfl) (wi hw 59 rfl) (by decide) e8 (argsL := [(.ref x2), (.int (4 : Int32))]) (rest := [(.ref a1)]) (W := 1) (rm_copyI l Z a0 hw x2 g2 h6 n0 (Nat.le_trans (Nat.le_trans Z0 Kq2.1) (Nat.le_of_eq (Wr.size W6).symm)) f10) (hb hby d7_18) (by rw [hml]; rfl) rfl pd2 rfl rfl (by decide) (by decide) (by decide) (by decide) ?_
  intro v9 T9 L9 X9 hQ9
  obtain ⟨h9, e9⟩ : ∃ z, T9.heap = z := ⟨_, rfl⟩
  rw [e9] at hQ9
  obtain ⟨b1_9, rfl, Nq9, Kq9, gqb1_9, sqb1_9, Fq0_9⟩ := hQ9
  have N9 := Fr.app (Fr.snoc X6 N2 ge_a1) Nq9
  have s11 : h0.size ≤ b1_9 := Nat.le_trans ((K0.trans Kq2 all0).wr W6 (Or.inl (List.mem_of_getElem? (i := 0) rfl))).1 sqb1_9
  refine Go.push (pc' := 21) rfl ?_
  have f12 := f7.keep Kq9 nin0
  have f13 := ((f5.wr W6).keep Kq9)
  refine g_putf X9 hx hby hZ hown (host := "") (Or.inl (wi hw 15 rfl)) Via.refl e9 f12 f13 (Or.inl (wi hw 16 rfl)) (wi hw 5 rfl) (ty := (.array .int)) (by decide) rfl rfl d7_21 (pc' := 24) rfl ?_
  intro T14 h14 X14 e14 W14 F14
  refine g_aloadN X14 hx hby d7_24 (pc' := 25) rfl rfl rfl ?_
  refine g_aloadN X14 hx hby d7_25 (pc' := 26) rfl rfl rfl ?_
  have f15 := ((((P5.keep Kq2 nin0).other W6 (Or.inr (sn1 hw))).keep Kq9 nin0).other W14 (Or.inr (sn2 hw)))
  refine g_getf X14 hx hby hZ hown (host := "") (Or.inl (wi hw 17 rfl)) Via.refl e14 f15 d7_26 (pc' := 29) rfl ?_
  intro T16 X16 e16
  refine g_iloadN X16 hx hby d7_29 (pc' := 30) rfl rfl ?_
  have f18 := ((((P11.keep Kq2 nin0).other W6 ne_x3_a1).keep Kq9 nin0).other W14 ne_x3_a1)
  refine Go.callS X16 hx hZ hown (wi hw 56 rfl) (wi hw 57 rfl) (wi hw 58 rfl) (wi hw 59 rfl) (by decide) e16 (argsL := [(.ref x3), (.int (4 : Int32))]) (rest := [(.ref a1)]) (W := 1) (rm_copyI l Z a0 hw x3 g3 h14 n0 (Nat.le_trans (Nat.le_trans (Nat.le_trans (Nat.le_trans Z0 Kq2.1) (Nat.le_of_eq (Wr.size W6).symm)) Kq9.1) (Nat.le_of_eq (Wr.size W14).symm)) f18) (hb hby d7_30) (by rw [hml]; rfl) rfl pd2 rfl rfl (by decide) (by decide) (by decide) (by decide) ?_
  intro v17 T17 L17 X17 hQ17
  obtain ⟨h17, e17⟩ : ∃ z, T17.heap = z := ⟨_, rfl⟩
  rw [e17] at hQ17
  obtain ⟨b1_17, rfl, Nq17, Kq17, gqb1_17, sqb1_17, Fq0_17⟩ := hQ17
  have N17 := Fr.app (Fr.snoc X14 N9 ge_a1) Nq17
  have z19 : n0 ≤ h17.size := (Nat.le_trans (Nat.le_trans (Nat.le_trans (Nat.le_trans (Nat.le_trans Z0 Kq2.1) (Nat.le_of_eq (Wr.size W6).symm)) Kq9.1) (Nat.le_of_eq (Wr.size W14).symm)) Kq17.1)
  have s20 : h0.size ≤ b1_17 := Nat.le_trans ((((K0.trans Kq2 all0).wr W6 (Or.inl (List.mem_of_getElem? (i := 0) rfl))).trans Kq9 all0).wr W14 (Or.inl (List.mem_of_getElem? (i := 0) rfl))).1 sqb1_17
  refine Go.push (pc' := 33) rfl ?_
  have f21 := f15.keep Kq17 nin0
  have f22 := ((f13.wr W14).keep Kq17)
  refine g_putf X17 hx hby hZ hown (host := "") (Or.inl (wi hw 17 rfl)) Via.refl e17 f21 f22 (Or.inl (wi hw 18 rfl)) (wi hw 5 rfl) (ty := (.array .int)) (by decide) rfl rfl d7_33 (pc' := 36) rfl ?_
  intro T23 h23 X23 e23 W23 F23
  have K24 : Keep h0 h23 [a1] := ((((((K0.trans Kq2 all0).wr W6 (Or.inl (List.mem_of_getElem? (i := 0) rfl))).trans Kq9 all0).wr W14 (Or.inl (List.mem_of_getElem? (i := 0) rfl))).trans Kq17 all0).wr W23 (Or.inl (List.mem_of_getElem? (i := 0) rfl)))
  refine g_aloadN X23 hx hby d7_36 (pc' := 37) rfl rfl rfl ?_
  refine g_aloadN X23 hx hby d7_37 (pc' := 38) rfl rfl rfl ?_
  have f25 := ((((((P6.keep Kq2 nin0).other W6 (Or.inr (sn3 hw))).keep Kq9 nin0).other W14 (Or.inr (sn4 hw))).keep Kq17 nin0).other W23 (Or.inr (sn5 hw)))
  refine g_getf X23 hx hby hZ hown (host := "") (Or.inl (wi hw 19 rfl)) Via.refl e23 f25 d7_38 (pc' := 41) rfl ?_
  intro T26 X26 e26
  refine g_iloadN X26 hx hby d7_41 (pc' := 42) rfl rfl ?_
  have f28 := ((((((P12.keep Kq2 nin0).other W6 ne_x4_a1).keep Kq9 nin0).other W14 ne_x4_a1).keep Kq17 nin0).other W23 ne_x4_a1)
  refine Go.callS X26 hx hZ hown (wi hw 56 rfl) (wi hw 57 rfl) (wi hw 58 rfl) (wi hw 59 rfl) (by decide) e26 (argsL := [(.ref x4), (.int (4 : Int32))]) (rest := [(.ref a1)]) (W := 1) (rm_copyI l Z a0 hw x4 g4 h23 n0 (Nat.le_trans z19 (Nat.le_of_eq (Wr.size W23).symm)) f28) (hb hby d7_42) (by rw [hml]; rfl) rfl pd2 rfl rfl (by decide) (by decide) (by decide) (by decide) ?_
  intro v27 T27 L27 X27 hQ27
  obtain ⟨h27, e27⟩ : ∃ z, T27.heap = z := ⟨_, rfl⟩
  rw [e27] at hQ27
  obtain ⟨b1_27, rfl, Nq27, Kq27, gqb1_27, sqb1_27, Fq0_27⟩ := hQ27
  have N27 := Fr.app (Fr.snoc X23 N17 ge_a1) Nq27
  have s29 : h0.size ≤ b1_27 := Nat.le_trans K24.1 sqb1_27
  refine Go.push (pc' := 45) rfl ?_
  have f30 := f25.keep Kq27 nin0
  have f31 := ((f22.wr W23).keep Kq27)
  refine g_putf X27 hx hby hZ hown (host := "") (Or.inl (wi hw 19 rfl)) Via.refl e27 f30 f31 (Or.inl (wi hw 20 rfl)) (wi hw 5 rfl) (ty := (.array .int)) (by decide) rfl rfl d7_45 (pc' := 48) rfl ?_
  intro T32 h32 X32 e32 W32 F32
  refine g_aloadN X32 hx hby d7_48 (pc' := 49) rfl rfl rfl ?_
  refine g_aloadN X32 hx hby d7_49 (pc' := 50) rfl rfl rfl ?_
  have f33 := ((((((((P7.keep Kq2 nin0).other W6 (Or.inr (sn6 hw))).keep Kq9 nin0).other W14 (Or.inr (sn7 hw))).keep Kq17 nin0).other W23 (Or.inr (sn8 hw))).keep Kq27 nin0).other W32 (Or.inr (sn9 hw)))
  refine g_getf X32 hx hby hZ hown (host := "") (Or.inl (wi hw 22 rfl)) Via.refl e32 f33 d7_50 (pc' := 53) rfl ?_
  intro T34 X34 e34
  refine g_iloadN X34 hx hby d7_53 (pc' := 54) rfl rfl ?_
  have f36 := ((((((((P13.keep Kq2 nin0).other W6 ne_x5_a1).keep Kq9 nin0).other W14 ne_x5_a1).keep Kq17 nin0).other W23 ne_x5_a1).keep Kq27 nin0).other W32 ne_x5_a1)
  refine Go.callS X34 hx hZ hown (wi hw 67 rfl) (wi hw 68 rfl) (wi hw 58 rfl) (wi hw 69 rfl) (by decide) e34 (argsL := [(.ref x5), (.int (4 : Int32))]) (rest := [(.ref a1)]) (W := 1) (rm_copyD l Z a0 hw x5 g5 h32 n0 (Nat.le_trans (Nat.le_trans (Nat.le_trans z19 (Nat.le_of_eq (Wr.size W23).symm)) Kq27.1) (Nat.le_of_eq (Wr.size W32).symm)) f36) (hb hby d7_54) (by rw [hml]; rfl) rfl pd3 rfl rfl (by decide) (by decide) (by decide) (by decide) ?_
  intro v35 T35 L35 X35 hQ35
  obtain ⟨h35, e35⟩ : ∃ z, T35.heap = z := ⟨_, rfl⟩
  rw [e35] at hQ35
  obtain ⟨b1_35, rfl, Nq35, Kq35, gqb1_35, sqb1_35, Fq0_35⟩ := hQ35
  have N35 := Fr.app (Fr.snoc X32 N27 ge_a1) Nq35
  have s37 : h0.size ≤ b1_35 := Nat.le_trans ((K24.trans Kq27 all0).wr W32 (Or.inl (List.mem_of_getElem? (i := 0) rfl))).1 sqb1_35
  refine Go.push (pc' := 57) rfl ?_
  have f38 := f33.keep Kq35 nin0
  have f39 := ((f31.wr W32).keep Kq35)
  refine g_putf X35 hx hby hZ hown (host := "") (Or.inl (wi hw 22 rfl)) Via.refl e35 f38 f39 (Or.inl (wi hw 23 rfl)) (wi hw 5 rfl) (ty := (.array .double)) (by decide) rfl rfl d7_57 (pc' := 60) rfl ?_
  intro T40 h40 X40 e40 W40 F40
  have z41 : n0 ≤ h40.size := (Nat.le_trans (Nat.le_trans (Nat.le_trans (Nat.le_trans (Nat.le_trans z19 (Nat.le_of_eq (Wr.size W23).symm)) Kq27.1) (Nat.le_of_eq (Wr.size W32).symm)) Kq35.1) (Nat.le_of_eq (Wr.size W40).symm))
  refine g_aloadN X40 hx hby d7_60 (pc' := 61) rfl rfl rfl ?_
  have f42 := ((((((((((P1.keep Kq2 nin0).other W6 (Or.inr (sn21 hw))).keep Kq9 nin0).other W14 (Or.inr (sn22 hw))).keep Kq17 nin0).other W23 (Or.inr (sn23 hw))).keep Kq27 nin0).other W32 (Or.inr (sn24 hw))).keep Kq35 nin0).other W40 (Or.inr (sn25 hw)))
  refine g_getf X40 hx hby hZ hown (host := "") (Or.inl (wi hw 28 rfl)) Via.refl e40 f42 d7_61 (pc' := 64) rfl ?_
  intro T43 X43 e43
  have hc64 : (0 : Int) = (0 : Int) := by decide
  refine g_ifYes X43 hx hby d7_64 (pc' := 79) (teq (show (0 : Int32) = (0 : Int32) from Int32.toInt_inj.mp hc64)).1 (by decide) (by decide) ?_
  refine Go.retV X43 hx hlk hret (hb hby d7_79) rfl (by decide) (by decide) ?_
  have f44 := ((((((((F6.keep Kq9 nin0).other W14 (Or.inr (sn28 hw))).keep Kq17 nin0).other W23 (Or.inr (sn29 hw))).keep Kq27 nin0).other W32 (Or.inr (sn30 hw))).keep Kq35 nin0).other W40 (Or.inr (sn31 hw)))
  have f45 := ((((((F14.keep Kq17 nin0).other W23 (Or.inr (sn35 hw))).keep Kq27 nin0).other W32 (Or.inr (sn36 hw))).keep Kq35 nin0).other W40 (Or.inr (sn37 hw)))
  have f46 := ((((F23.keep Kq27 nin0).other W32 (Or.inr (sn41 hw))).keep Kq35 nin0).other W40 (Or.inr (sn42 hw)))
  have f47 := ((F32.keep Kq35 nin0).other W40 (Or.inr (sn46 hw)))
  rw [e43]
  have ne48 : a1 ≠ b1_2 := Nat.ne_of_lt (Nat.lt_of_lt_of_le P17.lt sqb1_2)
  have ne49 : b1_2 ≠ b1_9 := Nat.ne_of_lt (Nat.lt_of_lt_of_le (Fq0_2.other W6 (Ne.symm ne48)).lt sqb1_9)
  have ne50 : b1_2 ≠ b1_17 := Nat.ne_of_lt (Nat.lt_of_lt_of_le (((Fq0_2.other W6 (Ne.symm ne48)).keep Kq9 nin0).other W14 (Ne.symm ne48)).lt sqb1_17)
  have ne51 : b1_2 ≠ b1_27 := Nat.ne_of_lt (Nat.lt_of_lt_of_le (((((Fq0_2.other W6 (Ne.symm ne48)).keep Kq9 nin0).other W14 (Ne.symm ne48)).keep Kq17 nin0).other W23 (Ne.symm ne48)).lt sqb1_27)
  have ne52 : b1_2 ≠ b1_35 := Nat.ne_of_lt (Nat.lt_of_lt_of_le (((((((Fq0_2.other W6 (Ne.symm ne48)).keep Kq9 nin0).other W14 (Ne.symm ne48)).keep Kq17 nin0).other W23 (Ne.symm ne48)).keep Kq27 nin0).other W32 (Ne.symm ne48)).lt sqb1_35)
  have ne53 : a1 ≠ b1_9 := Nat.ne_of_lt (Nat.lt_of_lt_of_le f7.lt sqb1_9)
  have ne54 : b1_9 ≠ b1_17 := Nat.ne_of_lt (Nat.lt_of_lt_of_le (Fq0_9.other W14 (Ne.symm ne53)).lt sqb1_17)
  have ne55 : b1_9 ≠ b1_27 := Nat.ne_of_lt (Nat.lt_of_lt_of_le (((Fq0_9.other W14 (Ne.symm ne53)).keep Kq17 nin0).other W23 (Ne.symm ne53)).lt sqb1_27)
  have ne56 : b1_9 ≠ b1_35 := Nat.ne_of_lt (Nat.lt_of_lt_of_le (((((Fq0_9.other W14 (Ne.symm ne53)).keep Kq17 nin0).other W23 (Ne.symm ne53)).keep Kq27 nin0).other W32 (Ne.symm ne53)).lt sqb1_35)
  have ne57 : a1 ≠ b1_17 := Nat.ne_of_lt (Nat.lt_of_lt_of_le f15.lt sqb1_17)
  have ne58 : b1_17 ≠ b1_27 := Nat.ne_of_lt (Nat.lt_of_lt_of_le (Fq0_17.other W23 (Ne.symm ne57)).lt sqb1_27)
  have ne59 : b1_17 ≠ b1_35 := Nat.ne_of_lt (Nat.lt_of_lt_of_le (((Fq0_17.other W23 (Ne.symm ne57)).keep Kq27 nin0).other W32 (Ne.symm ne57)).lt sqb1_35)
  have ne60 : a1 ≠ b1_27 := Nat.ne_of_lt (Nat.lt_of_lt_of_le f25.lt sqb1_27)
  have ne61 : b1_27 ≠ b1_35 := Nat.ne_of_lt (Nat.lt_of_lt_of_le (Fq0_27.other W32 (Ne.symm ne60)).lt sqb1_35)
  have f62 := ((((((((((P2.keep Kq2 nin0).other W6 (Or.inr (sn15 hw))).keep Kq9 nin0).other W14 (Or.inr (sn16 hw))).keep Kq17 nin0).other W23 (Or.inr (sn17 hw))).keep Kq27 nin0).other W32 (Or.inr (sn18 hw))).keep Kq35 nin0).other W40 (Or.inr (sn19 hw)))
  have f63 := ((((((((((P8.keep Kq2 nin0).other W6 (Or.inr (sn10 hw))).keep Kq9 nin0).other W14 (Or.inr (sn11 hw))).keep Kq17 nin0).other W23 (Or.inr (sn12 hw))).keep Kq27 nin0).other W32 (Or.inr (sn13 hw))).keep Kq35 nin0).other W40 (Or.inr (sn14 hw)))
  have f64 := ((((((((((P15.keep Kq2 nin0).other W6 (Or.inr (sn56 hw))).keep Kq9 nin0).other W14 (Or.inr (sn57 hw))).keep Kq17 nin0).other W23 (Or.inr (sn58 hw))).keep Kq27 nin0).other W32 (Or.inr (sn59 hw))).keep Kq35 nin0).other W40 (Or.inr (sn60 hw)))
  have f65 := ((((((((((P16.keep Kq2 nin0).other W6 (Or.inr (sn64 hw))).keep Kq9 nin0).other W14 (Or.inr (sn65 hw))).keep Kq17 nin0).other W23 (Or.inr (sn66 hw))).keep Kq27 nin0).other W32 (Or.inr (sn67 hw))).keep Kq35 nin0).other W40 (Or.inr (sn68 hw)))
  have f66 := ((((((((((P17.keep Kq2 nin0).other W6 (Or.inr (sn72 hw))).keep Kq9 nin0).other W14 (Or.inr (sn73 hw))).keep Kq17 nin0).other W23 (Or.inr (sn74 hw))).keep Kq27 nin0).other W32 (Or.inr (sn75 hw))).keep Kq35 nin0).other W40 (Or.inr (sn76 hw)))
  have f67 := (((((((((Fq0_2.other W6 (Ne.symm ne48)).keep Kq9 nin0).other W14 (Ne.symm ne48)).keep Kq17 nin0).other W23 (Ne.symm ne48)).keep Kq27 nin0).other W32 (Ne.symm ne48)).keep Kq35 nin0).other W40 (Ne.symm ne48))
  have f68 := (((((((Fq0_9.other W14 (Ne.symm ne53)).keep Kq17 nin0).other W23 (Ne.symm ne53)).keep Kq27 nin0).other W32 (Ne.symm ne53)).keep Kq35 nin0).other W40 (Ne.symm ne53))
  have f69 := (((((Fq0_17.other W23 (Ne.symm ne57)).keep Kq27 nin0).other W32 (Ne.symm ne57)).keep Kq35 nin0).other W40 (Ne.symm ne57))
  have f70 := (((Fq0_27.other W32 (Ne.symm ne60)).keep Kq35 nin0).other W40 (Ne.symm ne60))
  have ne71 : a1 ≠ b1_35 := Nat.ne_of_lt (Nat.lt_of_lt_of_le f33.lt sqb1_35)
  have f72 := (Fq0_35.other W40 (Ne.symm ne71))
  exact ⟨b1_2, b1_9, b1_17, b1_27, b1_35, rfl, (Fr.snoc X40 N35 ge_a1), ((((K24.trans Kq27 all0).wr W32 (Or.inl (List.mem_of_getElem? (i := 0) rfl))).trans Kq35 all0).wr W40 (Or.inl (List.mem_of_getElem? (i := 0) rfl))), gqb1_2, s3, gqb1_9, s11, gqb1_17, s20, gqb1_27, s29, gqb1_35, s37, ne49, ne50, ne51, ne52, ne54, ne55, ne56, ne58, ne59, ne61, f42, f62, f44, f45, f46, f47, F40, f63, f64, f65, f66, f67, f68, f69, f70, f72⟩
theorem d3_0 : decode prog_12_method_2_code 0 = .ok (.aload_n 0, 1) := by decide +kernel
theorem d3_1 : decode prog_12_method_2_code 1 = .ok (.getfield 37, 3) := by decide +kernel
theorem d3_4 : decode prog_12_method_2_code 4 = .ok (.istore 6, 2) := by decide +kernel
theorem d3_6 : decode prog_12_method_2_code 6 = .ok (.iload 6, 2) := by decide +kernel
theorem d3_8 : decode prog_12_method_2_code 8 = .ok (.aload_n 0, 1) := by decide +kernel
theorem d3_9 : decode prog_12_method_2_code 9 = .ok (.getfield 7, 3) := by decide +kernel
theorem d3_12 : decode prog_12_method_2_code 12 = .ok (.arraylength, 1) := by decide +kernel
theorem d3_13 : decode prog_12_method_2_code 13 = .ok (.if_icmp .ne 12, 3) := by decide +kernel
theorem d3_16 : decode prog_12_method_2_code 16 = .ok (.aload_n 0, 1) := by decide +kernel
theorem d3_17 : decode prog_12_method_2_code 17 = .ok (.iload 6, 2) := by decide +kernel
theorem d3_19 : decode prog_12_method_2_code 19 = .ok (.invokestatic 41, 3) := by decide +kernel
theorem pd4 : parseMethodDescriptor "(I)I" = some ⟨[.int], some .int⟩ := by decide +kernel
theorem d3_22 : decode prog_12_method_2_code 22 = .ok (.invokevirtual 47, 3) := by decide +kernel
theorem pd5 : parseMethodDescriptor "(I)V" = some ⟨[.int], none⟩ := by decide +kernel
theorem d3_25 : decode prog_12_method_2_code 25 = .ok (.aload_n 0, 1) := by decide +kernel
theorem d3_26 : decode prog_12_method_2_code 26 = .ok (.getfield 7, 3) := by decide +kernel
theorem d3_29 : decode prog_12_method_2_code 29 = .ok (.iload 6, 2) := by decide +kernel
theorem d3_31 : decode prog_12_method_2_code 31 = .ok (.iload_n 1, 1) := by decide +kernel
theorem d3_32 : decode prog_12_method_2_code 32 = .ok (.iastore, 1) := by decide +kernel
theorem d3_33 : decode prog_12_method_2_code 33 = .ok (.aload_n 0, 1) := by decide +kernel
theorem d3_34 : decode prog_12_method_2_code 34 = .ok (.getfield 13, 3) := by decide +kernel
theorem d3_37 : decode prog_12_method_2_code 37 = .ok (.iload 6, 2) := by decide +kernel
theorem d3_39 : decode prog_12_method_2_code 39 = .ok (.iload_n 2, 1) := by decide +kernel
theorem d3_40 : decode prog_12_method_2_code 40 = .ok (.iastore, 1) := by decide +kernel
theorem d3_41 : decode prog_12_method_2_code 41 = .ok (.aload_n 0, 1) := by decide +kernel
theorem d3_42 : decode prog_12_method_2_code 42 = .ok (.getfield 22, 3) := by decide +kernel
theorem d3_45 : decode prog_12_method_2_code 45 = .ok (.iload 6, 2) := by decide +kernel
theorem d3_47 : decode prog_12_method_2_code 47 = .ok (.dload_n 3, 1) := by decide +kernel
theorem d3_48 : decode prog_12_method_2_code 48 = .ok (.dastore, 1) := by decide +kernel
theorem d3_49 : decode prog_12_method_2_code 49 = .ok (.aload_n 0, 1) := by decide +kernel
theorem d3_50 : decode prog_12_method_2_code 50 = .ok (.getfield 33, 3) := by decide +kernel
theorem d3_53 : decode prog_12_method_2_code 53 = .ok (.ifCond .eq 12, 3) := by decide +kernel
theorem d3_65 : decode prog_12_method_2_code 65 = .ok (.aload_n 0, 1) := by decide +kernel
theorem d3_66 : decode prog_12_method_2_code 66 = .ok (.iload 6, 2) := by decide +kernel
theorem d3_68 : decode prog_12_method_2_code 68 = .ok (.iconst 1, 1) := by decide +kernel
theorem d3_69 : decode prog_12_method_2_code 69 = .ok (.iadd, 1) := by decide +kernel
theorem d3_70 : decode prog_12_method_2_code 70 = .ok (.putfield 37, 3) := by decide +kernel
theorem d3_73 : decode prog_12_method_2_code 73 = .ok (.aload_n 0, 1) := by decide +kernel
theorem d3_74 : decode prog_12_method_2_code 74 = .ok (.dup, 1) := by decide +kernel
theorem d3_75 : decode prog_12_method_2_code 75 = .ok (.getfield 51, 3) := by decide +kernel
theorem sn80 {a0 : Array Value} {Z : State} (hw : ∀ d ∈ tables_1, d.before a0 Z = true) : Jvm.RoadKit.slotOf Z kES "count" "I" ≠ Jvm.RoadKit.slotOf Z kES "bound" "I" := slot_ne (Or.inl (wi hw 71 rfl)) (Or.inl (wi hw 36 rfl)) (by decide) (t := .int) (t' := .int) (by decide) (by decide)
theorem d3_78 : decode prog_12_method_2_code 78 = .ok (.iconst 1, 1) := by decide +kernel
theorem d3_79 : decode prog_12_method_2_code 79 = .ok (.iadd, 1) := by decide +kernel
theorem d3_80 : decode prog_12_method_2_code 80 = .ok (.putfield 51, 3) := by decide +kernel
theorem d3_83 : decode prog_12_method_2_code 83 = .ok (.aload_n 0, 1) := by decide +kernel
theorem d3_84 : decode prog_12_method_2_code 84 = .ok (.dup, 1) := by decide +kernel
theorem d3_85 : decode prog_12_method_2_code 85 = .ok (.getfield 54, 3) := by decide +kernel
theorem sn81 {a0 : Array Value} {Z : State} (hw : ∀ d ∈ tables_1, d.before a0 Z = true) : Jvm.RoadKit.slotOf Z kES "nextNumber" "J" ≠ Jvm.RoadKit.slotOf Z kES "bound" "I" := slot_ne (Or.inl (wi hw 73 rfl)) (Or.inl (wi hw 36 rfl)) (by decide) (t := .long) (t' := .int) (by decide) (by decide)
theorem sn82 {a0 : Array Value} {Z : State} (hw : ∀ d ∈ tables_1, d.before a0 Z = true) : Jvm.RoadKit.slotOf Z kES "nextNumber" "J" ≠ Jvm.RoadKit.slotOf Z kES "count" "I" := slot_ne (Or.inl (wi hw 73 rfl)) (Or.inl (wi hw 71 rfl)) (by decide) (t := .long) (t' := .int) (by decide) (by decide)
theorem d3_88 : decode prog_12_method_2_code 88 = .ok (.lconst 1, 1) := by decide +kernel
theorem d3_89 : decode prog_12_method_2_code 89 = .ok (.ladd, 1) := by decide +kernel
theorem d3_90 : decode prog_12_method_2_code 90 = .ok (.putfield 54, 3) := by decide +kernel
theorem d3_93 : decode prog_12_method_2_code 93 = .ok (.iload 6, 2) := by decide +kernel
theorem d3_95 : decode prog_12_method_2_code 95 = .ok (.ireturn, 1) := by decide +kernel
theorem sn83 {a0 : Array Value} {Z : State} (hw : ∀ d ∈ tables_1, d.before a0 Z = true) : Jvm.RoadKit.slotOf Z kES "sources" "[I" ≠ Jvm.RoadKit.slotOf Z kES "bound" "I" := slot_ne (Or.inl (wi hw 14 rfl)) (Or.inl (wi hw 36 rfl)) (by decide) (t := (.array .int)) (t' := .int) (by decide) (by decide)
theorem sn84 {a0 : Array Value} {Z : State} (hw : ∀ d ∈ tables_1, d.before a0 Z = true) : Jvm.RoadKit.slotOf Z kES "sources" "[I" ≠ Jvm.RoadKit.slotOf Z kES "count" "I" := slot_ne (Or.inl (wi hw 14 rfl)) (Or.inl (wi hw 71 rfl)) (by decide) (t := (.array .int)) (t' := .int) (by decide) (by decide)
theorem sn85 {a0 : Array Value} {Z : State} (hw : ∀ d ∈ tables_1, d.before a0 Z = true) : Jvm.RoadKit.slotOf Z kES "sources" "[I" ≠ Jvm.RoadKit.slotOf Z kES "nextNumber" "J" := slot_ne (Or.inl (wi hw 14 rfl)) (Or.inl (wi hw 73 rfl)) (by decide) (t := (.array .int)) (t' := .long) (by decide) (by decide)
theorem sn86 {a0 : Array Value} {Z : State} (hw : ∀ d ∈ tables_1, d.before a0 Z = true) : Jvm.RoadKit.slotOf Z kES "targets" "[I" ≠ Jvm.RoadKit.slotOf Z kES "bound" "I" := slot_ne (Or.inl (wi hw 16 rfl)) (Or.inl (wi hw 36 rfl)) (by decide) (t := (.array .int)) (t' := .int) (by decide) (by decide)
theorem sn87 {a0 : Array Value} {Z : State} (hw : ∀ d ∈ tables_1, d.before a0 Z = true) : Jvm.RoadKit.slotOf Z kES "targets" "[I" ≠ Jvm.RoadKit.slotOf Z kES "count" "I" := slot_ne (Or.inl (wi hw 16 rfl)) (Or.inl (wi hw 71 rfl)) (by decide) (t := (.array .int)) (t' := .int) (by decide) (by decide)
theorem sn88 {a0 : Array Value} {Z : State} (hw : ∀ d ∈ tables_1, d.before a0 Z = true) : Jvm.RoadKit.slotOf Z kES "targets" "[I" ≠ Jvm.RoadKit.slotOf Z kES "nextNumber" "J" := slot_ne (Or.inl (wi hw 16 rfl)) (Or.inl (wi hw 73 rfl)) (by decide) (t := (.array .int)) (t' := .long) (by decide) (by decide)
theorem sn89 {a0 : Array Value} {Z : State} (hw : ∀ d ∈ tables_1, d.before a0 Z = true) : Jvm.RoadKit.slotOf Z kES "sourcePositions" "[I" ≠ Jvm.RoadKit.slotOf Z kES "bound" "I" := slot_ne (Or.inl (wi hw 18 rfl)) (Or.inl (wi hw 36 rfl)) (by decide) (t := (.array .int)) (t' := .int) (by decide) (by decide)
theorem sn90 {a0 : Array Value} {Z : State} (hw : ∀ d ∈ tables_1, d.before a0 Z = true) : Jvm.RoadKit.slotOf Z kES "sourcePositions" "[I" ≠ Jvm.RoadKit.slotOf Z kES "count" "I" := slot_ne (Or.inl (wi hw 18 rfl)) (Or.inl (wi hw 71 rfl)) (by decide) (t := (.array .int)) (t' := .int) (by decide) (by decide)
theorem sn91 {a0 : Array Value} {Z : State} (hw : ∀ d ∈ tables_1, d.before a0 Z = true) : Jvm.RoadKit.slotOf Z kES "sourcePositions" "[I" ≠ Jvm.RoadKit.slotOf Z kES "nextNumber" "J" := slot_ne (Or.inl (wi hw 18 rfl)) (Or.inl (wi hw 73 rfl)) (by decide) (t := (.array .int)) (t' := .long) (by decide) (by decide)
theorem sn92 {a0 : Array Value} {Z : State} (hw : ∀ d ∈ tables_1, d.before a0 Z = true) : Jvm.RoadKit.slotOf Z kES "targetPositions" "[I" ≠ Jvm.RoadKit.slotOf Z kES "bound" "I" := slot_ne (Or.inl (wi hw 20 rfl)) (Or.inl (wi hw 36 rfl)) (by decide) (t := (.array .int)) (t' := .int) (by decide) (by decide)
theorem sn93 {a0 : Array Value} {Z : State} (hw : ∀ d ∈ tables_1, d.before a0 Z = true) : Jvm.RoadKit.slotOf Z kES "targetPositions" "[I" ≠ Jvm.RoadKit.slotOf Z kES "count" "I" := slot_ne (Or.inl (wi hw 20 rfl)) (Or.inl (wi hw 71 rfl)) (by decide) (t := (.array .int)) (t' := .int) (by decide) (by decide)
theorem sn94 {a0 : Array Value} {Z : State} (hw : ∀ d ∈ tables_1, d.before a0 Z = true) : Jvm.RoadKit.slotOf Z kES "targetPositions" "[I" ≠ Jvm.RoadKit.slotOf Z kES "nextNumber" "J" := slot_ne (Or.inl (wi hw 20 rfl)) (Or.inl (wi hw 73 rfl)) (by decide) (t := (.array .int)) (t' := .long) (by decide) (by decide)
theorem sn95 {a0 : Array Value} {Z : State} (hw : ∀ d ∈ tables_1, d.before a0 Z = true) : Jvm.RoadKit.slotOf Z kES "weights" "[D" ≠ Jvm.RoadKit.slotOf Z kES "bound" "I" := slot_ne (Or.inl (wi hw 23 rfl)) (Or.inl (wi hw 36 rfl)) (by decide) (t := (.array .double)) (t' := .int) (by decide) (by decide)
theorem sn96 {a0 : Array Value} {Z : State} (hw : ∀ d ∈ tables_1, d.before a0 Z = true) : Jvm.RoadKit.slotOf Z kES "weights" "[D" ≠ Jvm.RoadKit.slotOf Z kES "count" "I" := slot_ne (Or.inl (wi hw 23 rfl)) (Or.inl (wi hw 71 rfl)) (by decide) (t := (.array .double)) (t' := .int) (by decide) (by decide)
theorem sn97 {a0 : Array Value} {Z : State} (hw : ∀ d ∈ tables_1, d.before a0 Z = true) : Jvm.RoadKit.slotOf Z kES "weights" "[D" ≠ Jvm.RoadKit.slotOf Z kES "nextNumber" "J" := slot_ne (Or.inl (wi hw 23 rfl)) (Or.inl (wi hw 73 rfl)) (by decide) (t := (.array .double)) (t' := .long) (by decide) (by decide)
theorem sn98 {a0 : Array Value} {Z : State} (hw : ∀ d ∈ tables_1, d.before a0 Z = true) : Jvm.RoadKit.slotOf Z kES "keyed" "Z" ≠ Jvm.RoadKit.slotOf Z kES "bound" "I" := slot_ne (Or.inr (wi hw 29 rfl)) (Or.inl (wi hw 36 rfl)) (by decide) (t := .boolean) (t' := .int) (by decide) (by decide)
theorem sn99 {a0 : Array Value} {Z : State} (hw : ∀ d ∈ tables_1, d.before a0 Z = true) : Jvm.RoadKit.slotOf Z kES "keyed" "Z" ≠ Jvm.RoadKit.slotOf Z kES "count" "I" := slot_ne (Or.inr (wi hw 29 rfl)) (Or.inl (wi hw 71 rfl)) (by decide) (t := .boolean) (t' := .int) (by decide) (by decide)
theorem sn100 {a0 : Array Value} {Z : State} (hw : ∀ d ∈ tables_1, d.before a0 Z = true) : Jvm.RoadKit.slotOf Z kES "keyed" "Z" ≠ Jvm.RoadKit.slotOf Z kES "nextNumber" "J" := slot_ne (Or.inr (wi hw 29 rfl)) (Or.inl (wi hw 73 rfl)) (by decide) (t := .boolean) (t' := .long) (by decide) (by decide)
theorem sn101 {a0 : Array Value} {Z : State} (hw : ∀ d ∈ tables_1, d.before a0 Z = true) : Jvm.RoadKit.slotOf Z kES "keptNumbers" "[J" ≠ Jvm.RoadKit.slotOf Z kES "bound" "I" := slot_ne (Or.inl (wi hw 27 rfl)) (Or.inl (wi hw 36 rfl)) (by decide) (t := (.array .long)) (t' := .int) (by decide) (by decide)
theorem sn102 {a0 : Array Value} {Z : State} (hw : ∀ d ∈ tables_1, d.before a0 Z = true) : Jvm.RoadKit.slotOf Z kES "keptNumbers" "[J" ≠ Jvm.RoadKit.slotOf Z kES "count" "I" := slot_ne (Or.inl (wi hw 27 rfl)) (Or.inl (wi hw 71 rfl)) (by decide) (t := (.array .long)) (t' := .int) (by decide) (by decide)
theorem sn103 {a0 : Array Value} {Z : State} (hw : ∀ d ∈ tables_1, d.before a0 Z = true) : Jvm.RoadKit.slotOf Z kES "keptNumbers" "[J" ≠ Jvm.RoadKit.slotOf Z kES "nextNumber" "J" := slot_ne (Or.inl (wi hw 27 rfl)) (Or.inl (wi hw 73 rfl)) (by decide) (t := (.array .long)) (t' := .long) (by decide) (by decide)
theorem sn104 {a0 : Array Value} {Z : State} (hw : ∀ d ∈ tables_1, d.before a0 Z = true) : Jvm.RoadKit.slotOf Z kES "keys" "[I" ≠ Jvm.RoadKit.slotOf Z kES "bound" "I" := slot_ne (Or.inl (wi hw 25 rfl)) (Or.inl (wi hw 36 rfl)) (by decide) (t := (.array .int)) (t' := .int) (by decide) (by decide)
theorem sn105 {a0 : Array Value} {Z : State} (hw : ∀ d ∈ tables_1, d.before a0 Z = true) : Jvm.RoadKit.slotOf Z kES "keys" "[I" ≠ Jvm.RoadKit.slotOf Z kES "count" "I" := slot_ne (Or.inl (wi hw 25 rfl)) (Or.inl (wi hw 71 rfl)) (by decide) (t := (.array .int)) (t' := .int) (by decide) (by decide)
theorem sn106 {a0 : Array Value} {Z : State} (hw : ∀ d ∈ tables_1, d.before a0 Z = true) : Jvm.RoadKit.slotOf Z kES "keys" "[I" ≠ Jvm.RoadKit.slotOf Z kES "nextNumber" "J" := slot_ne (Or.inl (wi hw 25 rfl)) (Or.inl (wi hw 73 rfl)) (by decide) (t := (.array .int)) (t' := .long) (by decide) (by decide)
theorem sn107 {a0 : Array Value} {Z : State} (hw : ∀ d ∈ tables_1, d.before a0 Z = true) : Jvm.RoadKit.slotOf Z kES "bound" "I" ≠ Jvm.RoadKit.slotOf Z kES "count" "I" := slot_ne (Or.inl (wi hw 36 rfl)) (Or.inl (wi hw 71 rfl)) (by decide) (t := .int) (t' := .int) (by decide) (by decide)
theorem sn108 {a0 : Array Value} {Z : State} (hw : ∀ d ∈ tables_1, d.before a0 Z = true) : Jvm.RoadKit.slotOf Z kES "bound" "I" ≠ Jvm.RoadKit.slotOf Z kES "nextNumber" "J" := slot_ne (Or.inl (wi hw 36 rfl)) (Or.inl (wi hw 73 rfl)) (by decide) (t := .int) (t' := .long) (by decide) (by decide)
theorem sn109 {a0 : Array Value} {Z : State} (hw : ∀ d ∈ tables_1, d.before a0 Z = true) : Jvm.RoadKit.slotOf Z kES "count" "I" ≠ Jvm.RoadKit.slotOf Z kES "nextNumber" "J" := slot_ne (Or.inl (wi hw 71 rfl)) (Or.inl (wi hw 73 rfl)) (by decide) (t := .int) (t' := .long) (by decide) (by decide)
theorem ef_rm_addA0 (m : MethodId) (x0 : Addr) (x1 : Int32) (x2 : Int32) (x3 : UInt64) (x4 : Int32) : entryFrame m #[(.ref x0), (.int x1), (.int x2), (.double x3), (.int x4)] 7 = mkF m 0 #[.val (.ref x0), .val (.int x1), .val (.int x2), .val (.double x3), .second, .val (.int x4), .unset] [] := by first | (simp [entryFrame, mkF, argsToLocals, Value.category]; done) | rfl
abbrev Q_rm_addA0 (Z : State) (a1 : Addr) (i1 : Int32) (i2 : Int32) (d1 : UInt64) (i3 : Int32) (x1 : Addr) (x2 : Addr) (x3 : Addr) (x4 : Addr) (x5 : Addr) (x6 : Addr) (x7 : Addr) (g1 : Nat → Int32) (g2 : Nat → Int32) (g3 : Nat → Int32) (g4 : Nat → Int32) (g5 : Nat → UInt64) (g6 : Nat → Int32) (t2 : Int32) (u1 : Int64) (h0 : Heap) (n0 : Nat) : Option Value → Heap → List Loc → Prop := fun v h L => ∃ (b1 : Addr) (b2 : Addr) (b3 : Addr) (b4 : Addr) (b5 : Addr), v = some (.int (0 : Int32)) ∧ Fr n0 L ∧ Keep h0 h [a1] ∧ n0 ≤ b1 ∧ h0.size ≤ b1 ∧ n0 ≤ b2 ∧ h0.size ≤ b2 ∧ n0 ≤ b3 ∧ h0.size ≤ b3 ∧ n0 ≤ b4 ∧ h0.size ≤ b4 ∧ n0 ≤ b5 ∧ h0.size ≤ b5 ∧ b1 ≠ b2 ∧ b1 ≠ b3 ∧ b1 ≠ b4 ∧ b1 ≠ b5 ∧ b2 ≠ b3 ∧ b2 ≠ b4 ∧ b2 ≠ b5 ∧ b3 ≠ b4 ∧ b3 ≠ b5 ∧ b4 ≠ b5 ∧ Fld Z h a1 kES "keyed" "Z" (.int (0 : Int32)) ∧ Fld Z h a1 kES "keptNumbers" "[J" (.ref x7) ∧ Fld Z h a1 kES "sources" "[I" (.ref b1) ∧ Fld Z h a1 kES "targets" "[I" (.ref b2) ∧ Fld Z h a1 kES "sourcePositions" "[I" (.ref b3) ∧ Fld Z h a1 kES "targetPositions" "[I" (.ref b4) ∧ Fld Z h a1 kES "weights" "[D" (.ref b5) ∧ Fld Z h a1 kES "keys" "[I" (.ref x6) ∧ Fld Z h a1 kES "bound" "I" (.int (1 : Int32)) ∧ Fld Z h a1 kES "count" "I" (.int (t2 + (1 : Int32))) ∧ Fld Z h a1 kES "nextNumber" "J" (.long (u1 + (1 : Int64))) ∧ ArF Z h b1 .int 4 (fun i => .int ((upI (fun _ => (0 : Int32)) 0 i1) i)) ∧ ArF Z h b2 .int 4 (fun i => .int ((upI (fun _ => (0 : Int32)) 0 i2) i)) ∧ ArF Z h b3 .int 4 (fun i => .int ((fun _ => (0 : Int32)) i)) ∧ ArF Z h b4 .int 4 (fun i => .int ((fun _ => (0 : Int32)) i)) ∧ ArF Z h b5 .double 4 (fun i => .double ((upD (fun _ => (0 : UInt64)) 0 d1) i))
set_option maxRecDepth 65536 in
set_option maxHeartbeats 40000000 in
theorem rm_addA0 (l : Launch) (Z : State) (a0 : Array Value) (hw : ∀ d ∈ tables_1, d.before a0 Z = true) (a1 : Addr) (i1 : Int32) (i2 : Int32) (d1 : UInt64) (i3 : Int32) (x1 : Addr) (x2 : Addr) (x3 : Addr) (x4 : Addr) (x5 : Addr) (x6 : Addr) (x7 : Addr) (g1 : Nat → Int32) (g2 : Nat → Int32) (g3 : Nat → Int32) (g4 : Nat → Int32) (g5 : Nat → UInt64) (g6 : Nat → Int32) (t2 : Int32) (u1 : Int64) (h0 : Heap) (n0 : Nat) (Z0 : n0 ≤ h0.size) (P0 : Exa Z h0 a1 kES) (P1 : Fld Z h0 a1 kES "keyed" "Z" (.int (0 : Int32))) (P2 : Fld Z h0 a1 kES "keptNumbers" "[J" (.ref x7)) (P3 : Fld Z h0 a1 kES "sources" "[I" (.ref x1)) (P4 : Fld Z h0 a1 kES "targets" "[I" (.ref x2)) (P5 : Fld Z h0 a1 kES "sourcePositions" "[I" (.ref x3)) (P6 : Fld Z h0 a1 kES "targetPositions" "[I" (.ref x4)) (P7 : Fld Z h0 a1 kES "weights" "[D" (.ref x5)) (P8 : Fld Z h0 a1 kES "keys" "[I" (.ref x6)) (P9 : ArF Z h0 x1 .int 0 (fun i => .int (g1 i))) (P10 : ArF Z h0 x2 .int 0 (fun i => .int (g2 i))) (P11 : ArF Z h0 x3 .int 0 (fun i => .int (g3 i))) (P12 : ArF Z h0 x4 .int 0 (fun i => .int (g4 i))) (P13 : ArF Z h0 x5 .double 0 (fun i => .double (g5 i))) (P14 : ArF Z h0 x6 .int 0 (fun i => .int (g6 i))) (P15 : Fld Z h0 a1 kES "bound" "I" (.int (0 : Int32))) (P16 : Fld Z h0 a1 kES "count" "I" (.int t2)) (P17 : Fld Z h0 a1 kES "nextNumber" "J" (.long u1)) (ne_x1_a1 : x1 ≠ a1) (ne_x2_a1 : x2 ≠ a1) (ne_x3_a1 : x3 ≠ a1) (ne_x4_a1 : x4 ≠ a1) (ne_x5_a1 : x5 ≠ a1) (ne_x6_a1 : x6 ≠ a1) (ge_a1 : n0 ≤ a1) :
    Con l Z (⟨"com/example/edgewise/edgewise/EdgeSlots", "add", "(IIDI)I"⟩ : MethodName) prog_12_method_2_code 7 (some .int) ({ frames := 3, cells := 5, slots := 20, locals := 68 } : Room) #[(.ref a1), (.int i1), (.int i2), (.double d1), (.int i3)] h0 (Q_rm_addA0 Z a1 i1 i2 d1 i3 x1 x2 x3 x4 x5 x6 x7 g1 g2 g3 g4 g5 g6 t2 u1 h0 n0) := by
  refine meet (y := (⟨"com/example/edgewise/edgewise/EdgeSlots", "add", "(IIDI)I"⟩ : MethodName)) (Q := Q_rm_addA0 Z a1 i1 i2 d1 i3 x1 x2 x3 x4 x5 x6 x7 g1 g2 g3 g4 g5 g6 t2 u1 h0 n0) (plainFor_of_name pn_com_example_edgewise_edgewise_EdgeSlots) (fun m => ef_rm_addA0 m a1 i1 i2 d1 i3) ?_
  intro p e s m below meth c T0 hx hby hml hZ hown hnm hret hlk X0 e0
  have N0 := Fr.nil n0
  have K0 := Keep.refl h0 [a1]
  refine g_aloadN X0 hx hby d3_0 (pc' := 1) rfl rfl rfl ?_
  refine g_getf X0 hx hby hZ hown (host := "") (Or.inl (wi hw 35 rfl)) Via.refl e0 P15 d3_1 (pc' := 4) rfl ?_
  intro T1 X1 e1
  refine g_istore X1 hx hby d3_4 (pc' := 6) rfl (L' := #[.val (.ref a1), .val (.int i1), .val (.int i2), .val (.double d1), .second, .val (.int i3), .val (.int (0 : Int32))]) rfl ?_
  refine g_iload X1 hx hby d3_6 (pc' := 8) rfl rfl ?_
  refine g_aloadN X1 hx hby d3_8 (pc' := 9) rfl rfl rfl ?_
  refine g_getf X1 hx hby hZ hown (host := "") (Or.inl (wi hw 13 rfl)) Via.refl e1 P3 d3_9 (pc' := 12) rfl ?_
  intro T2 X2 e2
  refine Go.alen X2 hx hZ e2 P9 (z := (0 : Int32)) rfl (hb hby d3_12) (pc' := 13) rfl ?_
  have hc13 : (0 : Int) = (0 : Int) := by decide
  refine g_icmpNo X2 hx hby d3_13 (pc' := 16) (teq (show (0 : Int32) = (0 : Int32) from Int32.toInt_inj.mp hc13)).2 rfl ?_
  refine g_aloadN X2 hx hby d3_16 (pc' := 17) rfl rfl rfl ?_
  refine g_iload X2 hx hby d3_17 (pc' := 19) rfl rfl ?_
  refine Go.callS X2 hx hZ hown (wi hw 37 rfl) (wi hw 38 rfl) (wi hw 39 rfl) (wi hw 40 rfl) (by decide) e2 (argsL := [(.int (0 : Int32))]) (rest := [(.ref a1)]) (W := 1) (rm_next0 l Z a0 hw  h0 n0 Z0 ) (hb hby d3_19) (by rw [hml]; rfl) rfl pd4 rfl rfl (by decide) (by decide) (by decide) (by decide) ?_
  intro v3 T3 L3 X3 hQ3
  obtain ⟨rfl, Nq3, hh3⟩ := hQ3
  have N3 := Fr.app N0 Nq3
  refine Go.push (pc' := 22) rfl ?_
  refine Go.callP X3 hx hZ (y := (⟨"com/example/edgewise/edgewise/EdgeSlots", "resize", "(I)V"⟩ : MethodName)) hown (wi hw 52 rfl) (wi hw 53 rfl) (wi hw 5 rfl) (wi hw 54 rfl) (wi hw 6 rfl) (wi hw 55 rfl) (by decide) hh3 (a := a1)  (argsL := [(.int (4 : Int32))]) (rest := []) (W := 0) P0 (rm_resize0 l Z a0 hw a1 x1 x2 x3 x4 x5 x6 x7 g1 g2 g3 g4 g5 g6 (0 : Int32) t2 u1 h0 n0 Z0 P0 P1 P2 P3 P4 P5 P6 P7 P8 P9 P10 P11 P12 P13 P14 P15 P16 P17 ne_x1_a1 ne_x2_a1 ne_x3_a1 ne_x4_a1 ne_x5_a1 ne_x6_a1 ge_a1) (hb hby d3_22) (by rw [hml]; rfl) rfl pd5 rfl rfl (by decide) (by decide) (by decide) (by decide) ?_
  intro v4 T4 L4 X4 hQ4
  obtain ⟨h4, e4⟩ : ∃ z, T4.heap = z := ⟨_, rfl⟩
  rw [e4] at hQ4
  obtain ⟨b1_4, b2_4, b3_4, b4_4, b5_4, rfl, Nq4, Kq4, gqb1_4, sqb1_4, gqb2_4, sqb2_4, gqb3_4, sqb3_4, gqb4_4, sqb4_4, gqb5_4, sqb5_4, nqb1_b2_4, nqb1_b3_4, nqb1_b4_4, nqb1_b5_4, nqb2_b3_4, nqb2_b4_4, nqb2_b5_4, nqb3_b4_4, nqb3_b5_4, nqb4_b5_4, Fq0_4, Fq1_4, Fq2_4, Fq3_4, Fq4_4, Fq5_4, Fq6_4, Fq7_4, Fq8_4, Fq9_4, Fq10_4, Fq11_4, Fq12_4, Fq13_4, Fq14_4, Fq15_4⟩ := hQ4
  have N4 := Fr.app N3 Nq4
  have s5 : h0.size ≤ b1_4 := Nat.le_trans K0.1 sqb1_4
  have s6 : h0.size ≤ b2_4 := Nat.le_trans K0.1 sqb2_4
  have s7 : h0.size ≤ b3_4 := Nat.le_trans K0.1 sqb3_4
  have s8 : h0.size ≤ b4_4 := Nat.le_trans K0.1 sqb4_4
  have s9 : h0.size ≤ b5_4 := Nat.le_trans K0.1 sqb5_4
  refine Go.void (pc' := 25) rfl ?_
  refine g_aloadN X4 hx hby d3_25 (pc' := 26) rfl rfl rfl ?_
  refine g_getf X4 hx hby hZ hown (host := "") (Or.inl (wi hw 13 rfl)) Via.refl e4 Fq2_4 d3_26 (pc' := 29) rfl ?_
  intro T10 X10 e10
  refine g_iload X10 hx hby d3_29 (pc' := 31) rfl rfl ?_
  refine g_iloadN X10 hx hby d3_31 (pc' := 32) rfl rfl ?_
  refine Go.iastore X10 hx hZ e10 Fq11_4 (k := 0) rfl (by decide) (hb hby d3_32) (pc' := 33) rfl ?_
  intro T11 h11 X11 e11 W11 V11
  refine g_aloadN X11 hx hby d3_33 (pc' := 34) rfl rfl rfl ?_
  have ne12 : a1 ≠ b1_4 := Nat.ne_of_lt (Nat.lt_of_lt_of_le P17.lt sqb1_4)
  have f13 := (Fq3_4.other W11 (Or.inl ne12))
  refine g_getf X11 hx hby hZ hown (host := "") (Or.inl (wi hw 15 rfl)) Via.refl e11 f13 d3_34 (pc' := 37) rfl ?_
  intro T14 X14 e14
  refine g_iload X14 hx hby d3_37 (pc' := 39) rfl rfl ?_
  refine g_iloadN X14 hx hby d3_39 (pc' := 40) rfl rfl ?_
  have f15 := (Fq12_4.other W11 (Ne.symm nqb1_b2_4))
  refine Go.iastore X14 hx hZ e14 f15 (k := 0) rfl (by decide) (hb hby d3_40) (pc' := 41) rfl ?_
  intro T16 h16 X16 e16 W16 V16
  refine g_aloadN X16 hx hby d3_41 (pc' := 42) rfl rfl rfl ?_
  have ne17 : a1 ≠ b2_4 := Nat.ne_of_lt (Nat.lt_of_lt_of_le P17.lt sqb2_4)
  have f18 := ((Fq6_4.other W11 (Or.inl ne12)).other W16 (Or.inl ne17))
  refine g_getf X16 hx hby hZ hown (host := "") (Or.inl (wi hw 22 rfl)) Via.refl e16 f18 d3_42 (pc' := 45) rfl ?_
  intro T19 X19 e19
  refine g_iload X19 hx hby d3_45 (pc' := 47) rfl rfl ?_
  refine g_dloadN X19 hx hby d3_47 (pc' := 48) rfl rfl ?_
  have f20 := ((Fq15_4.other W11 (Ne.symm nqb1_b5_4)).other W16 (Ne.symm nqb2_b5_4))
  refine Go.dastore X19 hx hZ e19 f20 (k := 0) rfl (by decide) (hb hby d3_48) (pc' := 49) rfl ?_
  intro T21 h21 X21 e21 W21 V21
  have z22 : n0 ≤ h21.size := (Nat.le_trans (Nat.le_trans (Nat.le_trans (Nat.le_trans Z0 Kq4.1) (Nat.le_of_eq (Wr.size W11).symm)) (Nat.le_of_eq (Wr.size W16).symm)) (Nat.le_of_eq (Wr.size W21).symm))
  refine g_aloadN X21 hx hby d3_49 (pc' := 50) rfl rfl rfl ?_
  have ne23 : a1 ≠ b5_4 := Nat.ne_of_lt (Nat.lt_of_lt_of_le P17.lt sqb5_4)
  have f24 := (((Fq0_4.other W11 (Or.inl ne12)).other W16 (Or.inl ne17)).other W21 (Or.inl ne23))
  refine g_getf X21 hx hby hZ hown (host := "") (Or.inl (wi hw 28 rfl)) Via.refl e21 f24 d3_50 (pc' := 53) rfl ?_
  intro T25 X25 e25
  have hc53 : (0 : Int) = (0 : Int) := by decide
  refine g_ifYes X25 hx hby d3_53 (pc' := 65) (teq (show (0 : Int32) = (0 : Int32) from Int32.toInt_inj.mp hc53)).1 (by decide) (by decide) ?_
  refine g_aloadN X25 hx hby d3_65 (pc' := 66) rfl rfl rfl ?_
  refine g_iload X25 hx hby d3_66 (pc' := 68) rfl rfl ?_
  refine g_iconst X25 hx hby d3_68 (pc' := 69) rfl (z := (1 : Int32)) rfl ?_
  refine g_iadd X25 hx hby d3_69 (pc' := 70) rfl (z := (1 : Int32)) rfl ?_
  have f26 := (((Fq8_4.other W11 (Or.inl ne12)).other W16 (Or.inl ne17)).other W21 (Or.inl ne23))
  have f27 := ((((P0.keep Kq4).wr W11).wr W16).wr W21)
  refine g_putf X25 hx hby hZ hown (host := "") (Or.inl (wi hw 35 rfl)) Via.refl e25 f26 f27 (Or.inl (wi hw 36 rfl)) (wi hw 5 rfl) (ty := .int) (by decide) rfl rfl d3_70 (pc' := 73) rfl ?_
  intro T28 h28 X28 e28 W28 F28
  refine g_aloadN X28 hx hby d3_73 (pc' := 74) rfl rfl rfl ?_
  refine g_dup X28 hx hby d3_74 (pc' := 75) rfl rfl ?_
  have f29 := ((((Fq9_4.other W11 (Or.inl ne12)).other W16 (Or.inl ne17)).other W21 (Or.inl ne23)).other W28 (Or.inr (sn80 hw)))
  refine g_getf X28 hx hby hZ hown (host := "") (Or.inl (wi hw 70 rfl)) Via.refl e28 f29 d3_75 (pc' := 78) rfl ?_
  intro T30 X30 e30
  refine g_iconst X30 hx hby d3_78 (pc' := 79) rfl (z := (1 : Int32)) rfl ?_
  refine g_iadd X30 hx hby d3_79 (pc' := 80) rfl rfl ?_
  have f31 := f27.wr W28
  refine g_putf X30 hx hby hZ hown (host := "") (Or.inl (wi hw 70 rfl)) Via.refl e30 f29 f31 (Or.inl (wi hw 71 rfl)) (wi hw 5 rfl) (ty := .int) (by decide) rfl rfl d3_80 (pc' := 83) rfl ?_
  intro T32 h32 X32 e32 W32 F32
  have K33 : Keep h0 h32 [a1] := ((((((K0.trans Kq4 (allS (Or.inl (List.mem_of_getElem? (i := 0) rfl)) all0)).wr W11 (Or.inr s5)).wr W16 (Or.inr s6)).wr W21 (Or.inr s9)).wr W28 (Or.inl (List.mem_of_getElem? (i := 0) rfl))).wr W32 (Or.inl (List.mem_of_getElem? (i := 0) rfl)))
  refine g_aloadN X32 hx hby d3_83 (pc' := 84) rfl rfl rfl ?_
  refine g_dup X32 hx hby d3_84 (pc' := 85) rfl rfl ?_
  have f34 := (((((Fq10_4.other W11 (Or.inl ne12)).other W16 (Or.inl ne17)).other W21 (Or.inl ne23)).other W28 (Or.inr (sn81 hw))).other W32 (Or.inr (sn82 hw)))
  refine g_getf X32 hx hby hZ hown (host := "") (Or.inl (wi hw 72 rfl)) Via.refl e32 f34 d3_85 (pc' := 88) rfl ?_
  intro T35 X35 e35
  refine Go.of (fun _ k => XS.lconst X35.here hx rfl (hb hby d3_88) k) ?_
  show Go p.tables e below s _ _ _ (T35.setTop (mkF m 89 #[.val (.ref a1), .val (.int i1), .val (.int i2), .val (.double d1), .second, .val (.int i3), .val (.int (0 : Int32))] [(.long (1 : Int64)), (.long u1), (.ref a1)]))
  refine g_ladd X35 hx hby d3_89 (pc' := 90) rfl rfl ?_
  have f36 := f31.wr W32
  refine g_putf X35 hx hby hZ hown (host := "") (Or.inl (wi hw 72 rfl)) Via.refl e35 f34 f36 (Or.inl (wi hw 73 rfl)) (wi hw 5 rfl) (ty := .long) (by decide) rfl rfl d3_90 (pc' := 93) rfl ?_
  intro T37 h37 X37 e37 W37 F37
  have N37 := (Fr.snoc X37 (Fr.snoc X32 (Fr.snoc X28 (Fr.snoc X21 (Fr.snoc X16 (Fr.snoc X11 N4 gqb1_4) gqb2_4) gqb5_4) ge_a1) ge_a1) ge_a1)
  refine g_iload X37 hx hby d3_93 (pc' := 95) rfl rfl ?_
  refine Go.retI X37 hx hlk hret (hb hby d3_95) (by decide) (by decide) ?_
  have f38 := ((((((Fq2_4.other W11 (Or.inl ne12)).other W16 (Or.inl ne17)).other W21 (Or.inl ne23)).other W28 (Or.inr (sn83 hw))).other W32 (Or.inr (sn84 hw))).other W37 (Or.inr (sn85 hw)))
  have f39 := (((((f13.other W16 (Or.inl ne17)).other W21 (Or.inl ne23)).other W28 (Or.inr (sn86 hw))).other W32 (Or.inr (sn87 hw))).other W37 (Or.inr (sn88 hw)))
  have f40 := ((((((Fq4_4.other W11 (Or.inl ne12)).other W16 (Or.inl ne17)).other W21 (Or.inl ne23)).other W28 (Or.inr (sn89 hw))).other W32 (Or.inr (sn90 hw))).other W37 (Or.inr (sn91 hw)))
  have f41 := ((((((Fq5_4.other W11 (Or.inl ne12)).other W16 (Or.inl ne17)).other W21 (Or.inl ne23)).other W28 (Or.inr (sn92 hw))).other W32 (Or.inr (sn93 hw))).other W37 (Or.inr (sn94 hw)))
  have f42 := ((((f18.other W21 (Or.inl ne23)).other W28 (Or.inr (sn95 hw))).other W32 (Or.inr (sn96 hw))).other W37 (Or.inr (sn97 hw)))
  rw [e37]
  have f43 := (((f24.other W28 (Or.inr (sn98 hw))).other W32 (Or.inr (sn99 hw))).other W37 (Or.inr (sn100 hw)))
  have f44 := ((((((Fq1_4.other W11 (Or.inl ne12)).other W16 (Or.inl ne17)).other W21 (Or.inl ne23)).other W28 (Or.inr (sn101 hw))).other W32 (Or.inr (sn102 hw))).other W37 (Or.inr (sn103 hw)))
  have f45 := ((((((Fq7_4.other W11 (Or.inl ne12)).other W16 (Or.inl ne17)).other W21 (Or.inl ne23)).other W28 (Or.inr (sn104 hw))).other W32 (Or.inr (sn105 hw))).other W37 (Or.inr (sn106 hw)))
  have f46 := ((F28.other W32 (Or.inr (sn107 hw))).other W37 (Or.inr (sn108 hw)))
  have f47 := (F32.other W37 (Or.inr (sn109 hw)))
  have f48 := (((((V11.other W16 nqb1_b2_4).other W21 nqb1_b5_4).other W28 (Ne.symm ne12)).other W32 (Ne.symm ne12)).other W37 (Ne.symm ne12))
  have f49 := ((((V16.other W21 nqb2_b5_4).other W28 (Ne.symm ne17)).other W32 (Ne.symm ne17)).other W37 (Ne.symm ne17))
  have ne50 : a1 ≠ b3_4 := Nat.ne_of_lt (Nat.lt_of_lt_of_le P17.lt sqb3_4)
  have f51 := ((((((Fq13_4.other W11 (Ne.symm nqb1_b3_4)).other W16 (Ne.symm nqb2_b3_4)).other W21 nqb3_b5_4).other W28 (Ne.symm ne50)).other W32 (Ne.symm ne50)).other W37 (Ne.symm ne50))
  have ne52 : a1 ≠ b4_4 := Nat.ne_of_lt (Nat.lt_of_lt_of_le P17.lt sqb4_4)
  have f53 := ((((((Fq14_4.other W11 (Ne.symm nqb1_b4_4)).other W16 (Ne.symm nqb2_b4_4)).other W21 nqb4_b5_4).other W28 (Ne.symm ne52)).other W32 (Ne.symm ne52)).other W37 (Ne.symm ne52))
  have f54 := (((V21.other W28 (Ne.symm ne23)).other W32 (Ne.symm ne23)).other W37 (Ne.symm ne23))
  exact ⟨b1_4, b2_4, b3_4, b4_4, b5_4, rfl, N37, (K33.wr W37 (Or.inl (List.mem_of_getElem? (i := 0) rfl))), gqb1_4, s5, gqb2_4, s6, gqb3_4, s7, gqb4_4, s8, gqb5_4, s9, nqb1_b2_4, nqb1_b3_4, nqb1_b4_4, nqb1_b5_4, nqb2_b3_4, nqb2_b4_4, nqb2_b5_4, nqb3_b4_4, nqb3_b5_4, nqb4_b5_4, f43, f44, f38, f39, f40, f41, f42, f45, f46, f47, F37, f48, f49, f51, f53, f54⟩
theorem ef_rm_addB0 (m : MethodId) (x0 : Addr) (x1 : Int32) (x2 : Int32) (x3 : UInt64) (x4 : Int32) : entryFrame m #[(.ref x0), (.int x1), (.int x2), (.double x3), (.int x4)] 7 = mkF m 0 #[.val (.ref x0), .val (.int x1), .val (.int x2), .val (.double x3), .second, .val (.int x4), .unset] [] := by first | (simp [entryFrame, mkF, argsToLocals, Value.category]; done) | rfl
abbrev Q_rm_addB0 (Z : State) (a1 : Addr) (i1 : Int32) (i2 : Int32) (d1 : UInt64) (i3 : Int32) (x1 : Addr) (x2 : Addr) (x3 : Addr) (x4 : Addr) (x5 : Addr) (x6 : Addr) (x7 : Addr) (g1 : Nat → Int32) (g2 : Nat → Int32) (g5 : Nat → UInt64) (t1 : Int32) (t2 : Int32) (u1 : Int64) (k1 : Nat) (h0 : Heap) (n0 : Nat) : Option Value → Heap → List Loc → Prop := fun v h L => v = some (.int t1) ∧ Fr n0 L ∧ Keep h0 h [a1, x1, x2, x5] ∧ Fld Z h a1 kES "keyed" "Z" (.int (0 : Int32)) ∧ Fld Z h a1 kES "keptNumbers" "[J" (.ref x7) ∧ Fld Z h a1 kES "sources" "[I" (.ref x1) ∧ Fld Z h a1 kES "targets" "[I" (.ref x2) ∧ Fld Z h a1 kES "sourcePositions" "[I" (.ref x3) ∧ Fld Z h a1 kES "targetPositions" "[I" (.ref x4) ∧ Fld Z h a1 kES "weights" "[D" (.ref x5) ∧ Fld Z h a1 kES "keys" "[I" (.ref x6) ∧ Fld Z h a1 kES "bound" "I" (.int (t1 + (1 : Int32))) ∧ Fld Z h a1 kES "count" "I" (.int (t2 + (1 : Int32))) ∧ Fld Z h a1 kES "nextNumber" "J" (.long (u1 + (1 : Int64))) ∧ ArF Z h x1 .int 4 (fun i => .int ((upI g1 k1 i1) i)) ∧ ArF Z h x2 .int 4 (fun i => .int ((upI g2 k1 i2) i)) ∧ ArF Z h x5 .double 4 (fun i => .double ((upD g5 k1 d1) i))
set_option maxRecDepth 65536 in
set_option maxHeartbeats 40000000 in
theorem rm_addB0 (l : Launch) (Z : State) (a0 : Array Value) (hw : ∀ d ∈ tables_1, d.before a0 Z = true) (a1 : Addr) (i1 : Int32) (i2 : Int32) (d1 : UInt64) (i3 : Int32) (x1 : Addr) (x2 : Addr) (x3 : Addr) (x4 : Addr) (x5 : Addr) (x6 : Addr) (x7 : Addr) (g1 : Nat → Int32) (g2 : Nat → Int32) (g5 : Nat → UInt64) (t1 : Int32) (t2 : Int32) (u1 : Int64) (k1 : Nat) (h0 : Heap) (n0 : Nat) (Z0 : n0 ≤ h0.size) (P0 : Exa Z h0 a1 kES) (P1 : Fld Z h0 a1 kES "keyed" "Z" (.int (0 : Int32))) (P2 : Fld Z h0 a1 kES "keptNumbers" "[J" (.ref x7)) (P3 : Fld Z h0 a1 kES "sources" "[I" (.ref x1)) (P4 : Fld Z h0 a1 kES "targets" "[I" (.ref x2)) (P5 : Fld Z h0 a1 kES "sourcePositions" "[I" (.ref x3)) (P6 : Fld Z h0 a1 kES "targetPositions" "[I" (.ref x4)) (P7 : Fld Z h0 a1 kES "weights" "[D" (.ref x5)) (P8 : Fld Z h0 a1 kES "keys" "[I" (.ref x6)) (P9 : ArF Z h0 x1 .int 4 (fun i => .int (g1 i))) (P10 : ArF Z h0 x2 .int 4 (fun i => .int (g2 i))) (P11 : ArF Z h0 x5 .double 4 (fun i => .double (g5 i))) (P12 : Fld Z h0 a1 kES "bound" "I" (.int t1)) (P13 : Fld Z h0 a1 kES "count" "I" (.int t2)) (P14 : Fld Z h0 a1 kES "nextNumber" "J" (.long u1)) (ne_x1_a1 : x1 ≠ a1) (ne_x2_a1 : x2 ≠ a1) (ne_x5_a1 : x5 ≠ a1) (ne_x1_x2 : x1 ≠ x2) (ne_x1_x5 : x1 ≠ x5) (ne_x2_x5 : x2 ≠ x5) (ge_a1 : n0 ≤ a1) (ge_x1 : n0 ≤ x1) (ge_x2 : n0 ≤ x2) (ge_x5 : n0 ≤ x5) (hk : t1.toInt = (k1 : Int)) (hbd : k1 < 4) :
    Con l Z (⟨"com/example/edgewise/edgewise/EdgeSlots", "add", "(IIDI)I"⟩ : MethodName) prog_12_method_2_code 7 (some .int) ({ frames := 0, cells := 0, slots := 0, locals := 0 } : Room) #[(.ref a1), (.int i1), (.int i2), (.double d1), (.int i3)] h0 (Q_rm_addB0 Z a1 i1 i2 d1 i3 x1 x2 x3 x4 x5 x6 x7 g1 g2 g5 t1 t2 u1 k1 h0 n0) := by
  refine meet (y := (⟨"com/example/edgewise/edgewise/EdgeSlots", "add", "(IIDI)I"⟩ : MethodName)) (Q := Q_rm_addB0 Z a1 i1 i2 d1 i3 x1 x2 x3 x4 x5 x6 x7 g1 g2 g5 t1 t2 u1 k1 h0 n0) (plainFor_of_name pn_com_example_edgewise_edgewise_EdgeSlots) (fun m => ef_rm_addB0 m a1 i1 i2 d1 i3) ?_
  intro p e s m below meth c T0 hx hby hml hZ hown hnm hret hlk X0 e0
  have N0 := Fr.nil n0
  have K0 := Keep.refl h0 [a1, x1, x2, x5]
  refine g_aloadN X0 hx hby d3_0 (pc' := 1) rfl rfl rfl ?_
  refine g_getf X0 hx hby hZ hown (host := "") (Or.inl (wi hw 35 rfl)) Via.refl e0 P12 d3_1 (pc' := 4) rfl ?_
  intro T1 X1 e1
  refine g_istore X1 hx hby d3_4 (pc' := 6) rfl (L' := #[.val (.ref a1), .val (.int i1), .val (.int i2), .val (.double d1), .second, .val (.int i3), .val (.int t1)]) rfl ?_
  refine g_iload X1 hx hby d3_6 (pc' := 8) rfl rfl ?_
  refine g_aloadN X1 hx hby d3_8 (pc' := 9) rfl rfl rfl ?_
  refine g_getf X1 hx hby hZ hown (host := "") (Or.inl (wi hw 13 rfl)) Via.refl e1 P3 d3_9 (pc' := 12) rfl ?_
  intro T2 X2 e2
  refine Go.alen X2 hx hZ e2 P9 (z := (4 : Int32)) rfl (hb hby d3_12) (pc' := 13) rfl ?_
  have hc13 : ¬ (t1.toInt = (4 : Int)) := by omega
  refine g_icmpYes X2 hx hby d3_13 (pc' := 25) (feq (show ¬ (t1 = (4 : Int32)) from fun q => hc13 (congrArg Int32.toInt q))).2 (by decide) (by decide) ?_
  refine g_aloadN X2 hx hby d3_25 (pc' := 26) rfl rfl rfl ?_
  refine g_getf X2 hx hby hZ hown (host := "") (Or.inl (wi hw 13 rfl)) Via.refl e2 P3 d3_26 (pc' := 29) rfl ?_
  intro T3 X3 e3
  refine g_iload X3 hx hby d3_29 (pc' := 31) rfl rfl ?_
  refine g_iloadN X3 hx hby d3_31 (pc' := 32) rfl rfl ?_
  refine Go.iastore X3 hx hZ e3 P9 (k := k1) hk hbd (hb hby d3_32) (pc' := 33) rfl ?_
  intro T4 h4 X4 e4 W4 V4
  refine g_aloadN X4 hx hby d3_33 (pc' := 34) rfl rfl rfl ?_
  have f5 := (P4.other W4 (Or.inl (Ne.symm ne_x1_a1)))
  refine g_getf X4 hx hby hZ hown (host := "") (Or.inl (wi hw 15 rfl)) Via.refl e4 f5 d3_34 (pc' := 37) rfl ?_
  intro T6 X6 e6
  refine g_iload X6 hx hby d3_37 (pc' := 39) rfl rfl ?_
  refine g_iloadN X6 hx hby d3_39 (pc' := 40) rfl rfl ?_
  have f7 := (P10.other W4 (Ne.symm ne_x1_x2))
  refine Go.iastore X6 hx hZ e6 f7 (k := k1) hk hbd (hb hby d3_40) (pc' := 41) rfl ?_
  intro T8 h8 X8 e8 W8 V8
  refine g_aloadN X8 hx hby d3_41 (pc' := 42) rfl rfl rfl ?_
  have f9 := ((P7.other W4 (Or.inl (Ne.symm ne_x1_a1))).other W8 (Or.inl (Ne.symm ne_x2_a1)))
  refine g_getf X8 hx hby hZ hown (host := "") (Or.inl (wi hw 22 rfl)) Via.refl e8 f9 d3_42 (pc' := 45) rfl ?_
  intro T10 X10 e10
  refine g_iload X10 hx hby d3_45 (pc' := 47) rfl rfl ?_
  refine g_dloadN X10 hx hby d3_47 (pc' := 48) rfl rfl ?_
  have f11 := ((P11.other W4 (Ne.symm ne_x1_x5)).other W8 (Ne.symm ne_x2_x5))
  refine Go.dastore X10 hx hZ e10 f11 (k := k1) hk hbd (hb hby d3_48) (pc' := 49) rfl ?_
  intro T12 h12 X12 e12 W12 V12
  refine g_aloadN X12 hx hby d3_49 (pc' := 50) rfl rfl rfl ?_
  have f13 := (((P1.other W4 (Or.inl (Ne.symm ne_x1_a1))).other W8 (Or.inl (Ne.symm ne_x2_a1))).other W12 (Or.inl (Ne.symm ne_x5_a1)))
  refine g_getf X12 hx hby hZ hown (host := "") (Or.inl (wi hw 28 rfl)) Via.refl e12 f13 d3_50 (pc' := 53) rfl ?_
  intro T14 X14 e14
  have hc53 : (0 : Int) = (0 : Int) := by decide
  refine g_ifYes X14 hx hby d3_53 (pc' := 65) (teq (show (0 : Int32) = (0 : Int32) from Int32.toInt_inj.mp hc53)).1 (by decide) (by decide) ?_
  refine g_aloadN X14 hx hby d3_65 (pc' := 66) rfl rfl rfl ?_
  refine g_iload X14 hx hby d3_66 (pc' := 68) rfl rfl ?_
  refine g_iconst X14 hx hby d3_68 (pc' := 69) rfl (z := (1 : Int32)) rfl ?_
  refine g_iadd X14 hx hby d3_69 (pc' := 70) rfl rfl ?_
  have f15 := (((P12.other W4 (Or.inl (Ne.symm ne_x1_a1))).other W8 (Or.inl (Ne.symm ne_x2_a1))).other W12 (Or.inl (Ne.symm ne_x5_a1)))
  have f16 := (((P0.wr W4).wr W8).wr W12)
  refine g_putf X14 hx hby hZ hown (host := "") (Or.inl (wi hw 35 rfl)) Via.refl e14 f15 f16 (Or.inl (wi hw 36 rfl)) (wi hw 5 rfl) (ty := .int) (by decide) rfl rfl d3_70 (pc' := 73) rfl ?_
  intro T17 h17 X17 e17 W17 F17
  have z18 : n0 ≤ h17.size := (Nat.le_trans (Nat.le_trans (Nat.le_trans (Nat.le_trans Z0 (Nat.le_of_eq (Wr.size W4).symm)) (Nat.le_of_eq (Wr.size W8).symm)) (Nat.le_of_eq (Wr.size W12).symm)) (Nat.le_of_eq (Wr.size W17).symm))
  have K19 : Keep h0 h17 [a1, x1, x2, x5] := ((((K0.wr W4 (Or.inl (List.mem_of_getElem? (i := 1) rfl))).wr W8 (Or.inl (List.mem_of_getElem? (i := 2) rfl))).wr W12 (Or.inl (List.mem_of_getElem? (i := 3) rfl))).wr W17 (Or.inl (List.mem_of_getElem? (i := 0) rfl)))
  refine g_aloadN X17 hx hby d3_73 (pc' := 74) rfl rfl rfl ?_
  refine g_dup X17 hx hby d3_74 (pc' := 75) rfl rfl ?_
  have f20 := ((((P13.other W4 (Or.inl (Ne.symm ne_x1_a1))).other W8 (Or.inl (Ne.symm ne_x2_a1))).other W12 (Or.inl (Ne.symm ne_x5_a1))).other W17 (Or.inr (sn80 hw)))
  refine g_getf X17 hx hby hZ hown (host := "") (Or.inl (wi hw 70 rfl)) Via.refl e17 f20 d3_75 (pc' := 78) rfl ?_
  intro T21 X21 e21
  refine g_iconst X21 hx hby d3_78 (pc' := 79) rfl (z := (1 : Int32)) rfl ?_
  refine g_iadd X21 hx hby d3_79 (pc' := 80) rfl rfl ?_
  have f22 := f16.wr W17
  refine g_putf X21 hx hby hZ hown (host := "") (Or.inl (wi hw 70 rfl)) Via.refl e21 f20 f22 (Or.inl (wi hw 71 rfl)) (wi hw 5 rfl) (ty := .int) (by decide) rfl rfl d3_80 (pc' := 83) rfl ?_
  intro T23 h23 X23 e23 W23 F23
  refine g_aloadN X23 hx hby d3_83 (pc' := 84) rfl rfl rfl ?_
  refine g_dup X23 hx hby d3_84 (pc' := 85) rfl rfl ?_
  have f24 := (((((P14.other W4 (Or.inl (Ne.symm ne_x1_a1))).other W8 (Or.inl (Ne.symm ne_x2_a1))).other W12 (Or.inl (Ne.symm ne_x5_a1))).other W17 (Or.inr (sn81 hw))).other W23 (Or.inr (sn82 hw)))
  refine g_getf X23 hx hby hZ hown (host := "") (Or.inl (wi hw 72 rfl)) Via.refl e23 f24 d3_85 (pc' := 88) rfl ?_
  intro T25 X25 e25
  refine Go.of (fun _ k => XS.lconst X25.here hx rfl (hb hby d3_88) k) ?_
  show Go p.tables e below s _ _ _ (T25.setTop (mkF m 89 #[.val (.ref a1), .val (.int i1), .val (.int i2), .val (.double d1), .second, .val (.int i3), .val (.int t1)] [(.long (1 : Int64)), (.long u1), (.ref a1)]))
  refine g_ladd X25 hx hby d3_89 (pc' := 90) rfl rfl ?_
  have f26 := f22.wr W23
  refine g_putf X25 hx hby hZ hown (host := "") (Or.inl (wi hw 72 rfl)) Via.refl e25 f24 f26 (Or.inl (wi hw 73 rfl)) (wi hw 5 rfl) (ty := .long) (by decide) rfl rfl d3_90 (pc' := 93) rfl ?_
  intro T27 h27 X27 e27 W27 F27
  refine g_iload X27 hx hby d3_93 (pc' := 95) rfl rfl ?_
  refine Go.retI X27 hx hlk hret (hb hby d3_95) (by decide) (by decide) ?_
  rw [e27]
  have f28 := (((f13.other W17 (Or.inr (sn98 hw))).other W23 (Or.inr (sn99 hw))).other W27 (Or.inr (sn100 hw)))
  have f29 := ((((((P2.other W4 (Or.inl (Ne.symm ne_x1_a1))).other W8 (Or.inl (Ne.symm ne_x2_a1))).other W12 (Or.inl (Ne.symm ne_x5_a1))).other W17 (Or.inr (sn101 hw))).other W23 (Or.inr (sn102 hw))).other W27 (Or.inr (sn103 hw)))
  have f30 := ((((((P3.other W4 (Or.inl (Ne.symm ne_x1_a1))).other W8 (Or.inl (Ne.symm ne_x2_a1))).other W12 (Or.inl (Ne.symm ne_x5_a1))).other W17 (Or.inr (sn83 hw))).other W23 (Or.inr (sn84 hw))).other W27 (Or.inr (sn85 hw)))
  have f31 := (((((f5.other W8 (Or.inl (Ne.symm ne_x2_a1))).other W12 (Or.inl (Ne.symm ne_x5_a1))).other W17 (Or.inr (sn86 hw))).other W23 (Or.inr (sn87 hw))).other W27 (Or.inr (sn88 hw)))
  have f32 := ((((((P5.other W4 (Or.inl (Ne.symm ne_x1_a1))).other W8 (Or.inl (Ne.symm ne_x2_a1))).other W12 (Or.inl (Ne.symm ne_x5_a1))).other W17 (Or.inr (sn89 hw))).other W23 (Or.inr (sn90 hw))).other W27 (Or.inr (sn91 hw)))
  have f33 := ((((((P6.other W4 (Or.inl (Ne.symm ne_x1_a1))).other W8 (Or.inl (Ne.symm ne_x2_a1))).other W12 (Or.inl (Ne.symm ne_x5_a1))).other W17 (Or.inr (sn92 hw))).other W23 (Or.inr (sn93 hw))).other W27 (Or.inr (sn94 hw)))
  have f34 := ((((f9.other W12 (Or.inl (Ne.symm ne_x5_a1))).other W17 (Or.inr (sn95 hw))).other W23 (Or.inr (sn96 hw))).other W27 (Or.inr (sn97 hw)))
  have f35 := ((((((P8.other W4 (Or.inl (Ne.symm ne_x1_a1))).other W8 (Or.inl (Ne.symm ne_x2_a1))).other W12 (Or.inl (Ne.symm ne_x5_a1))).other W17 (Or.inr (sn104 hw))).other W23 (Or.inr (sn105 hw))).other W27 (Or.inr (sn106 hw)))
  have f36 := ((F17.other W23 (Or.inr (sn107 hw))).other W27 (Or.inr (sn108 hw)))
  have f37 := (F23.other W27 (Or.inr (sn109 hw)))
  have f38 := (((((V4.other W8 ne_x1_x2).other W12 ne_x1_x5).other W17 ne_x1_a1).other W23 ne_x1_a1).other W27 ne_x1_a1)
  have f39 := ((((V8.other W12 ne_x2_x5).other W17 ne_x2_a1).other W23 ne_x2_a1).other W27 ne_x2_a1)
  have f40 := (((V12.other W17 ne_x5_a1).other W23 ne_x5_a1).other W27 ne_x5_a1)
  exact ⟨rfl, (Fr.snoc X27 (Fr.snoc X23 (Fr.snoc X17 (Fr.snoc X12 (Fr.snoc X8 (Fr.snoc X4 N0 ge_x1) ge_x2) ge_x5) ge_a1) ge_a1) ge_a1), ((K19.wr W23 (Or.inl (List.mem_of_getElem? (i := 0) rfl))).wr W27 (Or.inl (List.mem_of_getElem? (i := 0) rfl))), f28, f29, f30, f31, f32, f33, f34, f35, f36, f37, F27, f38, f39, f40⟩
theorem d7_67 : decode prog_12_method_22_code 67 = .ok (.aload_n 0, 1) := by decide +kernel
theorem d7_68 : decode prog_12_method_22_code 68 = .ok (.aload_n 0, 1) := by decide +kernel
theorem d7_69 : decode prog_12_method_22_code 69 = .ok (.getfield 26, 3) := by decide +kernel
theorem d7_72 : decode prog_12_method_22_code 72 = .ok (.iload_n 1, 1) := by decide +kernel
theorem d7_73 : decode prog_12_method_22_code 73 = .ok (.invokestatic 87, 3) := by decide +kernel
theorem d7_76 : decode prog_12_method_22_code 76 = .ok (.putfield 26, 3) := by decide +kernel
theorem ef_rm_resize1 (m : MethodId) (x0 : Addr) : entryFrame m #[(.ref x0), (.int (4 : Int32))] 2 = mkF m 0 #[.val (.ref x0), .val (.int (4 : Int32))] [] := by first | (simp [entryFrame, mkF, argsToLocals, Value.category]; done) | rfl
abbrev Q_rm_resize1 (Z : State) (a1 : Addr) (x1 : Addr) (x2 : Addr) (x3 : Addr) (x4 : Addr) (x5 : Addr) (x6 : Addr) (x7 : Addr) (g1 : Nat → Int32) (g2 : Nat → Int32) (g3 : Nat → Int32) (g4 : Nat → Int32) (g5 : Nat → UInt64) (g6 : Nat → Int32) (t1 : Int32) (t2 : Int32) (u1 : Int64) (h0 : Heap) (n0 : Nat) : Option Value → Heap → List Loc → Prop := fun v h L => ∃ (b1 : Addr) (b2 : Addr) (b3 : Addr) (b4 : Addr) (b5 : Addr) (b6 : Addr), v = none ∧ Fr n0 L ∧ Keep h0 h [a1] ∧ n0 ≤ b1 ∧ h0.size ≤ b1 ∧ n0 ≤ b2 ∧ h0.size ≤ b2 ∧ n0 ≤ b3 ∧ h0.size ≤ b3 ∧ n0 ≤ b4 ∧ h0.size ≤ b4 ∧ n0 ≤ b5 ∧ h0.size ≤ b5 ∧ n0 ≤ b6 ∧ h0.size ≤ b6 ∧ b1 ≠ b2 ∧ b1 ≠ b3 ∧ b1 ≠ b4 ∧ b1 ≠ b5 ∧ b1 ≠ b6 ∧ b2 ≠ b3 ∧ b2 ≠ b4 ∧ b2 ≠ b5 ∧ b2 ≠ b6 ∧ b3 ≠ b4 ∧ b3 ≠ b5 ∧ b3 ≠ b6 ∧ b4 ≠ b5 ∧ b4 ≠ b6 ∧ b5 ≠ b6 ∧ Fld Z h a1 kES "keyed" "Z" (.int (1 : Int32)) ∧ Fld Z h a1 kES "keptNumbers" "[J" (.ref x7) ∧ Fld Z h a1 kES "sources" "[I" (.ref b1) ∧ Fld Z h a1 kES "targets" "[I" (.ref b2) ∧ Fld Z h a1 kES "sourcePositions" "[I" (.ref b3) ∧ Fld Z h a1 kES "targetPositions" "[I" (.ref b4) ∧ Fld Z h a1 kES "weights" "[D" (.ref b5) ∧ Fld Z h a1 kES "keys" "[I" (.ref b6) ∧ Fld Z h a1 kES "bound" "I" (.int t1) ∧ Fld Z h a1 kES "count" "I" (.int t2) ∧ Fld Z h a1 kES "nextNumber" "J" (.long u1) ∧ ArF Z h b1 .int 4 (fun i => .int ((fun _ => (0 : Int32)) i)) ∧ ArF Z h b2 .int 4 (fun i => .int ((fun _ => (0 : Int32)) i)) ∧ ArF Z h b3 .int 4 (fun i => .int ((fun _ => (0 : Int32)) i)) ∧ ArF Z h b4 .int 4 (fun i => .int ((fun _ => (0 : Int32)) i)) ∧ ArF Z h b5 .double 4 (fun i => .double ((fun _ => (0 : UInt64)) i)) ∧ ArF Z h b6 .int 4 (fun i => .int ((fun _ => (0 : Int32)) i))
set_option maxRecDepth 65536 in
set_option maxHeartbeats 40000000 in
theorem rm_resize1 (l : Launch) (Z : State) (a0 : Array Value) (hw : ∀ d ∈ tables_1, d.before a0 Z = true) (a1 : Addr) (x1 : Addr) (x2 : Addr) (x3 : Addr) (x4 : Addr) (x5 : Addr) (x6 : Addr) (x7 : Addr) (g1 : Nat → Int32) (g2 : Nat → Int32) (g3 : Nat → Int32) (g4 : Nat → Int32) (g5 : Nat → UInt64) (g6 : Nat → Int32) (t1 : Int32) (t2 : Int32) (u1 : Int64) (h0 : Heap) (n0 : Nat) (Z0 : n0 ≤ h0.size) (P0 : Exa Z h0 a1 kES) (P1 : Fld Z h0 a1 kES "keyed" "Z" (.int (1 : Int32))) (P2 : Fld Z h0 a1 kES "keptNumbers" "[J" (.ref x7)) (P3 : Fld Z h0 a1 kES "sources" "[I" (.ref x1)) (P4 : Fld Z h0 a1 kES "targets" "[I" (.ref x2)) (P5 : Fld Z h0 a1 kES "sourcePositions" "[I" (.ref x3)) (P6 : Fld Z h0 a1 kES "targetPositions" "[I" (.ref x4)) (P7 : Fld Z h0 a1 kES "weights" "[D" (.ref x5)) (P8 : Fld Z h0 a1 kES "keys" "[I" (.ref x6)) (P9 : ArF Z h0 x1 .int 0 (fun i => .int (g1 i))) (P10 : ArF Z h0 x2 .int 0 (fun i => .int (g2 i))) (P11 : ArF Z h0 x3 .int 0 (fun i => .int (g3 i))) (P12 : ArF Z h0 x4 .int 0 (fun i => .int (g4 i))) (P13 : ArF Z h0 x5 .double 0 (fun i => .double (g5 i))) (P14 : ArF Z h0 x6 .int 0 (fun i => .int (g6 i))) (P15 : Fld Z h0 a1 kES "bound" "I" (.int t1)) (P16 : Fld Z h0 a1 kES "count" "I" (.int t2)) (P17 : Fld Z h0 a1 kES "nextNumber" "J" (.long u1)) (ne_x1_a1 : x1 ≠ a1) (ne_x2_a1 : x2 ≠ a1) (ne_x3_a1 : x3 ≠ a1) (ne_x4_a1 : x4 ≠ a1) (ne_x5_a1 : x5 ≠ a1) (ne_x6_a1 : x6 ≠ a1) (ge_a1 : n0 ≤ a1) :
    Con l Z (⟨"com/example/edgewise/edgewise/EdgeSlots", "resize", "(I)V"⟩ : MethodName) prog_12_method_22_code 2 none ({ frames := 2, cells := 6, slots := 24, locals := 55 } : Room) #[(.ref a1), (.int (4 : Int32))] h0 (Q_rm_resize1 Z a1 x1 x2 x3 x4 x5 x6 x7 g1 g2 g3 g4 g5 g6 t1 t2 u1 h0 n0) := by
  refine meet (y := (⟨"com/example/edgewise/edgewise/EdgeSlots", "resize", "(I)V"⟩ : MethodName)) (Q := Q_rm_resize1 Z a1 x1 x2 x3 x4 x5 x6 x7 g1 g2 g3 g4 g5 g6 t1 t2 u1 h0 n0) (plainFor_of_name pn_com_example_edgewise_edgewise_EdgeSlots) (fun m => ef_rm_resize1 m a1) ?_
  intro p e s m below meth c T0 hx hby hml hZ hown hnm hret hlk X0 e0
  have N0 := Fr.nil n0
  have K0 := Keep.refl h0 [a1]
  refine g_aloadN X0 hx hby d7_0 (pc' := 1) rfl rfl rfl ?_
  refine g_aloadN X0 hx hby d7_1 (pc' := 2) rfl rfl rfl ?_
  refine g_getf X0 hx hby hZ hown (host := "") (Or.inl (wi hw 13 rfl)) Via.refl e0 P3 d7_2 (pc' := 5) rfl ?_
  intro T1 X1 e1
  refine g_iloadN X1 hx hby d7_5 (pc' := 6) rfl rfl ?_
  refine Go.callS X1 hx hZ hown (wi hw 56 rfl) (wi hw 57 rfl) (wi hw 58 rfl) (wi hw 59 rfl) (by decide) e1 (argsL := [(.ref x1), (.int (4 : Int32))]) (rest := [(.ref a1)]) (W := 1) (rm_copyI l Z a0 hw x1 g1 h0 n0 Z0 P9) (hb hby d7_6) (by rw [hml]; rfl) rfl pd2 rfl rfl (by decide) (by decide) (by decide) (by decide) ?_
  intro v2 T2 L2 X2 hQ2
  obtain ⟨h2, e2⟩ : ∃ z, T2.heap = z := ⟨_, rfl⟩
  rw [e2] at hQ2
  obtain ⟨b1_2, rfl, Nq2, Kq2, gqb1_2, sqb1_2, Fq0_2⟩ := hQ2
  have N2 := Fr.app N0 Nq2
  have s3 : h0.size ≤ b1_2 := Nat.le_trans K0.1 sqb1_2
  refine Go.push (pc' := 9) rfl ?_
  have f4 := P3.keep Kq2 nin0
  have f5 := P0.keep Kq2
  refine g_putf X2 hx hby hZ hown (host := "") (Or.inl (wi hw 13 rfl)) Via.refl e2 f4 f5 (Or.inl (wi hw 14 rfl)) (wi hw 5 rfl) (ty := (.array .int)) (by decide) rfl rfl d7_9 (pc' := 12) rfl ?_
  intro T6 h6 X6 e6 W6 F6
  refine g_aloadN X6 hx hby d7_12 (pc' := 13) rfl rfl rfl ?_
  refine g_aloadN X6 hx hby d7_13 (pc' := 14) rfl rfl rfl ?_
  have f7 := ((P4.keep Kq2 nin0).other W6 (Or.inr (sn0 hw)))
  refine g_getf X6 hx hby hZ hown (host := "") (Or.inl (wi hw 15 rfl)) Via.refl e6 f7 d7_14 (pc' := 17) rfl ?_
  intro T8 X8 e8
  refine g_iloadN X8 hx hby d7_17 (pc' := 18) rfl rfl ?_
  have f10 := ((P10.keep Kq2 nin0).other W6 ne_x2_a1)
  refine Go.callS X8 hx hZ hown (wi hw 56 rfl) (wi hw 57 rfl) (wi hw 58 rfl) (wi hw 59 rfl) (by decide) e8 (argsL := [(.ref x2), (.int (4 : Int32))]) (rest := [(.ref a1)]) (W := 1) (rm_copyI l Z a0 hw x2 g2 h6 n0 (Nat.le_trans (Nat.le_trans Z0 Kq2.1) (Nat.le_of_eq (Wr.size W6).symm)) f10) (hb hby d7_18) (by rw [hml]; rfl) rfl pd2 rfl rfl (by decide) (by decide) (by decide) (by decide) ?_
  intro v9 T9 L9 X9 hQ9
  obtain ⟨h9, e9⟩ : ∃ z, T9.heap = z := ⟨_, rfl⟩
  rw [e9] at hQ9
  obtain ⟨b1_9, rfl, Nq9, Kq9, gqb1_9, sqb1_9, Fq0_9⟩ := hQ9
  have N9 := Fr.app (Fr.snoc X6 N2 ge_a1) Nq9
  have s11 : h0.size ≤ b1_9 := Nat.le_trans ((K0.trans Kq2 all0).wr W6 (Or.inl (List.mem_of_getElem? (i := 0) rfl))).1 sqb1_9
  refine Go.push (pc' := 21) rfl ?_
  have f12 := f7.keep Kq9 nin0
  have f13 := ((f5.wr W6).keep Kq9)
  refine g_putf X9 hx hby hZ hown (host := "") (Or.inl (wi hw 15 rfl)) Via.refl e9 f12 f13 (Or.inl (wi hw 16 rfl)) (wi hw 5 rfl) (ty := (.array .int)) (by decide) rfl rfl d7_21 (pc' := 24) rfl ?_
  intro T14 h14 X14 e14 W14 F14
  refine g_aloadN X14 hx hby d7_24 (pc' := 25) rfl rfl rfl ?_
  refine g_aloadN X14 hx hby d7_25 (pc' := 26) rfl rfl rfl ?_
  have f15 := ((((P5.keep Kq2 nin0).other W6 (Or.inr (sn1 hw))).keep Kq9 nin0).other W14 (Or.inr (sn2 hw)))
  refine g_getf X14 hx hby hZ hown (host := "") (Or.inl (wi hw 17 rfl)) Via.refl e14 f15 d7_26 (pc' := 29) rfl ?_
  intro T16 X16 e16
  refine g_iloadN X16 hx hby d7_29 (pc' := 30) rfl rfl ?_
  have f18 := ((((P11.keep Kq2 nin0).other W6 ne_x3_a1).keep Kq9 nin0).other W14 ne_x3_a1)
  refine Go.callS X16 hx hZ hown (wi hw 56 rfl) (wi hw 57 rfl) (wi hw 58 rfl) (wi hw 59 rfl) (by decide) e16 (argsL := [(.ref x3), (.int (4 : Int32))]) (rest := [(.ref a1)]) (W := 1) (rm_copyI l Z a0 hw x3 g3 h14 n0 (Nat.le_trans (Nat.le_trans (Nat.le_trans (Nat.le_trans Z0 Kq2.1) (Nat.le_of_eq (Wr.size W6).symm)) Kq9.1) (Nat.le_of_eq (Wr.size W14).symm)) f18) (hb hby d7_30) (by rw [hml]; rfl) rfl pd2 rfl rfl (by decide) (by decide) (by decide) (by decide) ?_
  intro v17 T17 L17 X17 hQ17
  obtain ⟨h17, e17⟩ : ∃ z, T17.heap = z := ⟨_, rfl⟩
  rw [e17] at hQ17
  obtain ⟨b1_17, rfl, Nq17, Kq17, gqb1_17, sqb1_17, Fq0_17⟩ := hQ17
  have N17 := Fr.app (Fr.snoc X14 N9 ge_a1) Nq17
  have z19 : n0 ≤ h17.size := (Nat.le_trans (Nat.le_trans (Nat.le_trans (Nat.le_trans (Nat.le_trans Z0 Kq2.1) (Nat.le_of_eq (Wr.size W6).symm)) Kq9.1) (Nat.le_of_eq (Wr.size W14).symm)) Kq17.1)
  have s20 : h0.size ≤ b1_17 := Nat.le_trans ((((K0.trans Kq2 all0).wr W6 (Or.inl (List.mem_of_getElem? (i := 0) rfl))).trans Kq9 all0).wr W14 (Or.inl (List.mem_of_getElem? (i := 0) rfl))).1 sqb1_17
  refine Go.push (pc' := 33) rfl ?_
  have f21 := f15.keep Kq17 nin0
  have f22 := ((f13.wr W14).keep Kq17)
  refine g_putf X17 hx hby hZ hown (host := "") (Or.inl (wi hw 17 rfl)) Via.refl e17 f21 f22 (Or.inl (wi hw 18 rfl)) (wi hw 5 rfl) (ty := (.array .int)) (by decide) rfl rfl d7_33 (pc' := 36) rfl ?_
  intro T23 h23 X23 e23 W23 F23
  have K24 : Keep h0 h23 [a1] := ((((((K0.trans Kq2 all0).wr W6 (Or.inl (List.mem_of_getElem? (i := 0) rfl))).trans Kq9 all0).wr W14 (Or.inl (List.mem_of_getElem? (i := 0) rfl))).trans Kq17 all0).wr W23 (Or.inl (List.mem_of_getElem? (i := 0) rfl)))
  refine g_aloadN X23 hx hby d7_36 (pc' := 37) rfl rfl rfl ?_
  refine g_aloadN X23 hx hby d7_37 (pc' := 38) rfl rfl rfl ?_
  have f25 := ((((((P6.keep Kq2 nin0).other W6 (Or.inr (sn3 hw))).keep Kq9 nin0).other W14 (Or.inr (sn4 hw))).keep Kq17 nin0).other W23 (Or.inr (sn5 hw)))
  refine g_getf X23 hx hby hZ hown (host := "") (Or.inl (wi hw 19 rfl)) Via.refl e23 f25 d7_38 (pc' := 41) rfl ?_
  intro T26 X26 e26
  refine g_iloadN X26 hx hby d7_41 (pc' := 42) rfl rfl ?_
  have f28 := ((((((P12.keep Kq2 nin0).other W6 ne_x4_a1).keep Kq9 nin0).other W14 ne_x4_a1).keep Kq17 nin0).other W23 ne_x4_a1)
  refine Go.callS X26 hx hZ hown (wi hw 56 rfl) (wi hw 57 rfl) (wi hw 58 rfl) (wi hw 59 rfl) (by decide) e26 (argsL := [(.ref x4), (.int (4 : Int32))]) (rest := [(.ref a1)]) (W := 1) (rm_copyI l Z a0 hw x4 g4 h23 n0 (Nat.le_trans z19 (Nat.le_of_eq (Wr.size W23).symm)) f28) (hb hby d7_42) (by rw [hml]; rfl) rfl pd2 rfl rfl (by decide) (by decide) (by decide) (by decide) ?_
  intro v27 T27 L27 X27 hQ27
  obtain ⟨h27, e27⟩ : ∃ z, T27.heap = z := ⟨_, rfl⟩
  rw [e27] at hQ27
  obtain ⟨b1_27, rfl, Nq27, Kq27, gqb1_27, sqb1_27, Fq0_27⟩ := hQ27
  have N27 := Fr.app (Fr.snoc X23 N17 ge_a1) Nq27
  have s29 : h0.size ≤ b1_27 := Nat.le_trans K24.1 sqb1_27
  refine Go.push (pc' := 45) rfl ?_
  have f30 := f25.keep Kq27 nin0
  have f31 := ((f22.wr W23).keep Kq27)
  refine g_putf X27 hx hby hZ hown (host := "") (Or.inl (wi hw 19 rfl)) Via.refl e27 f30 f31 (Or.inl (wi hw 20 rfl)) (wi hw 5 rfl) (ty := (.array .int)) (by decide) rfl rfl d7_45 (pc' := 48) rfl ?_
  intro T32 h32 X32 e32 W32 F32
  refine g_aloadN X32 hx hby d7_48 (pc' := 49) rfl rfl rfl ?_
  refine g_aloadN X32 hx hby d7_49 (pc' := 50) rfl rfl rfl ?_
  have f33 := ((((((((P7.keep Kq2 nin0).other W6 (Or.inr (sn6 hw))).keep Kq9 nin0).other W14 (Or.inr (sn7 hw))).keep Kq17 nin0).other W23 (Or.inr (sn8 hw))).keep Kq27 nin0).other W32 (Or.inr (sn9 hw)))
  refine g_getf X32 hx hby hZ hown (host := "") (Or.inl (wi hw 22 rfl)) Via.refl e32 f33 d7_50 (pc' := 53) rfl ?_
  intro T34 X34 e34
  refine g_iloadN X34 hx hby d7_53 (pc' := 54) rfl rfl ?_
  have f36 := ((((((((P13.keep Kq2 nin0).other W6 ne_x5_a1).keep Kq9 nin0).other W14 ne_x5_a1).keep Kq17 nin0).other W23 ne_x5_a1).keep Kq27 nin0).other W32 ne_x5_a1)
  refine Go.callS X34 hx hZ hown (wi hw 67 rfl) (wi hw 68 rfl) (wi hw 58 rfl) (wi hw 69 rfl) (by decide) e34 (argsL := [(.ref x5), (.int (4 : Int32))]) (rest := [(.ref a1)]) (W := 1) (rm_copyD l Z a0 hw x5 g5 h32 n0 (Nat.le_trans (Nat.le_trans (Nat.le_trans z19 (Nat.le_of_eq (Wr.size W23).symm)) Kq27.1) (Nat.le_of_eq (Wr.size W32).symm)) f36) (hb hby d7_54) (by rw [hml]; rfl) rfl pd3 rfl rfl (by decide) (by decide) (by decide) (by decide) ?_
  intro v35 T35 L35 X35 hQ35
  obtain ⟨h35, e35⟩ : ∃ z, T35.heap = z := ⟨_, rfl⟩
  rw [e35] at hQ35
  obtain ⟨b1_35, rfl, Nq35, Kq35, gqb1_35, sqb1_35, Fq0_35⟩ := hQ35
  have N35 := Fr.app (Fr.snoc X32 N27 ge_a1) Nq35
  have s37 : h0.size ≤ b1_35 := Nat.le_trans ((K24.trans Kq27 all0).wr W32 (Or.inl (List.mem_of_getElem? (i := 0) rfl))).1 sqb1_35
  refine Go.push (pc' := 57) rfl ?_
  have f38 := f33.keep Kq35 nin0
  have f39 := ((f31.wr W32).keep Kq35)
  refine g_putf X35 hx hby hZ hown (host := "") (Or.inl (wi hw 22 rfl)) Via.refl e35 f38 f39 (Or.inl (wi hw 23 rfl)) (wi hw 5 rfl) (ty := (.array .double)) (by decide) rfl rfl d7_57 (pc' := 60) rfl ?_
  intro T40 h40 X40 e40 W40 F40
  have z41 : n0 ≤ h40.size := (Nat.le_trans (Nat.le_trans (Nat.le_trans (Nat.le_trans (Nat.le_trans z19 (Nat.le_of_eq (Wr.size W23).symm)) Kq27.1) (Nat.le_of_eq (Wr.size W32).symm)) Kq35.1) (Nat.le_of_eq (Wr.size W40).symm))
  refine g_aloadN X40 hx hby d7_60 (pc' := 61) rfl rfl rfl ?_
  have f42 := ((((((((((P1.keep Kq2 nin0).other W6 (Or.inr (sn21 hw))).keep Kq9 nin0).other W14 (Or.inr (sn22 hw))).keep Kq17 nin0).other W23 (Or.inr (sn23 hw))).keep Kq27 nin0).other W32 (Or.inr (sn24 hw))).keep Kq35 nin0).other W40 (Or.inr (sn25 hw)))
  refine g_getf X40 hx hby hZ hown (host := "") (Or.inl (wi hw 28 rfl)) Via.refl e40 f42 d7_61 (pc' := 64) rfl ?_
  intro T43 X43 e43
  have hc64 : ¬ ((1 : Int) = (0 : Int)) := by decide
  refine g_ifNo X43 hx hby d7_64 (pc' := 67) (feq (show ¬ ((1 : Int32) = (0 : Int32)) from fun q => hc64 (congrArg Int32.toInt q))).1 rfl ?_
  refine g_aloadN X43 hx hby d7_67 (pc' := 68) rfl rfl rfl ?_
  refine g_aloadN X43 hx hby d7_68 (pc' := 69) rfl rfl rfl ?_
  have f44 := ((((((((((P8.keep Kq2 nin0).other W6 (Or.inr (sn10 hw))).keep Kq9 nin0).other W14 (Or.inr (sn11 hw))).keep Kq17 nin0).other W23 (Or.inr (sn12 hw))).keep Kq27 nin0).other W32 (Or.inr (sn13 hw))).keep Kq35 nin0).other W40 (Or.inr (sn14 hw)))
  refine g_getf X43 hx hby hZ hown (host := "") (Or.inl (wi hw 24 rfl)) Via.refl e43 f44 d7_69 (pc' := 72) rfl ?_
  intro T45 X45 e45
  refine g_iloadN X45 hx hby d7_72 (pc' := 73) rfl rfl ?_
  have f47 := ((((((((((P14.keep Kq2 nin0).other W6 ne_x6_a1).keep Kq9 nin0).other W14 ne_x6_a1).keep Kq17 nin0).other W23 ne_x6_a1).keep Kq27 nin0).other W32 ne_x6_a1).keep Kq35 nin0).other W40 ne_x6_a1)
  refine Go.callS X45 hx hZ hown (wi hw 56 rfl) (wi hw 57 rfl) (wi hw 58 rfl) (wi hw 59 rfl) (by decide) e45 (argsL := [(.ref x6), (.int (4 : Int32))]) (rest := [(.ref a1)]) (W := 1) (rm_copyI l Z a0 hw x6 g6 h40 n0 z41 f47) (hb hby d7_73) (by rw [hml]; rfl) rfl pd2 rfl rfl (by decide) (by decide) (by decide) (by decide) ?_
  intro v46 T46 L46 X46 hQ46
  obtain ⟨h46, e46⟩ : ∃ z, T46.heap = z := ⟨_, rfl⟩
  rw [e46] at hQ46
  obtain ⟨b1_46, rfl, Nq46, Kq46, gqb1_46, sqb1_46, Fq0_46⟩ := hQ46
  have N46 := Fr.app (Fr.snoc X40 N35 ge_a1) Nq46
  have s48 : h0.size ≤ b1_46 := Nat.le_trans ((((K24.trans Kq27 all0).wr W32 (Or.inl (List.mem_of_getElem? (i := 0) rfl))).trans Kq35 all0).wr W40 (Or.inl (List.mem_of_getElem? (i := 0) rfl))).1 sqb1_46
  refine Go.push (pc' := 76) rfl ?_
  have f49 := f44.keep Kq46 nin0
  have f50 := ((f39.wr W40).keep Kq46)
  refine g_putf X46 hx hby hZ hown (host := "") (Or.inl (wi hw 24 rfl)) Via.refl e46 f49 f50 (Or.inl (wi hw 25 rfl)) (wi hw 5 rfl) (ty := (.array .int)) (by decide) rfl rfl d7_76 (pc' := 79) rfl ?_
  intro T51 h51 X51 e51 W51 F51
  have K52 : Keep h0 h51 [a1] := ((((((K24.trans Kq27 all0).wr W32 (Or.inl (List.mem_of_getElem? (i := 0) rfl))).trans Kq35 all0).wr W40 (Or.inl (List.mem_of_getElem? (i := 0) rfl))).trans Kq46 all0).wr W51 (Or.inl (List.mem_of_getElem? (i := 0) rfl)))
  refine Go.retV X51 hx hlk hret (hb hby d7_79) rfl (by decide) (by decide) ?_
  have f53 := ((((((((((F6.keep Kq9 nin0).other W14 (Or.inr (sn28 hw))).keep Kq17 nin0).other W23 (Or.inr (sn29 hw))).keep Kq27 nin0).other W32 (Or.inr (sn30 hw))).keep Kq35 nin0).other W40 (Or.inr (sn31 hw))).keep Kq46 nin0).other W51 (Or.inr (sn32 hw)))
  have f54 := ((((((((F14.keep Kq17 nin0).other W23 (Or.inr (sn35 hw))).keep Kq27 nin0).other W32 (Or.inr (sn36 hw))).keep Kq35 nin0).other W40 (Or.inr (sn37 hw))).keep Kq46 nin0).other W51 (Or.inr (sn38 hw)))
  have f55 := ((((((F23.keep Kq27 nin0).other W32 (Or.inr (sn41 hw))).keep Kq35 nin0).other W40 (Or.inr (sn42 hw))).keep Kq46 nin0).other W51 (Or.inr (sn43 hw)))
  have f56 := ((((F32.keep Kq35 nin0).other W40 (Or.inr (sn46 hw))).keep Kq46 nin0).other W51 (Or.inr (sn47 hw)))
  have f57 := ((F40.keep Kq46 nin0).other W51 (Or.inr (sn50 hw)))
  rw [e51]
  have ne58 : a1 ≠ b1_2 := Nat.ne_of_lt (Nat.lt_of_lt_of_le P17.lt sqb1_2)
  have ne59 : b1_2 ≠ b1_9 := Nat.ne_of_lt (Nat.lt_of_lt_of_le (Fq0_2.other W6 (Ne.symm ne58)).lt sqb1_9)
  have ne60 : b1_2 ≠ b1_17 := Nat.ne_of_lt (Nat.lt_of_lt_of_le (((Fq0_2.other W6 (Ne.symm ne58)).keep Kq9 nin0).other W14 (Ne.symm ne58)).lt sqb1_17)
  have ne61 : b1_2 ≠ b1_27 := Nat.ne_of_lt (Nat.lt_of_lt_of_le (((((Fq0_2.other W6 (Ne.symm ne58)).keep Kq9 nin0).other W14 (Ne.symm ne58)).keep Kq17 nin0).other W23 (Ne.symm ne58)).lt sqb1_27)
  have ne62 : b1_2 ≠ b1_35 := Nat.ne_of_lt (Nat.lt_of_lt_of_le (((((((Fq0_2.other W6 (Ne.symm ne58)).keep Kq9 nin0).other W14 (Ne.symm ne58)).keep Kq17 nin0).other W23 (Ne.symm ne58)).keep Kq27 nin0).other W32 (Ne.symm ne58)).lt sqb1_35)
  have ne63 : b1_2 ≠ b1_46 := Nat.ne_of_lt (Nat.lt_of_lt_of_le (((((((((Fq0_2.other W6 (Ne.symm ne58)).keep Kq9 nin0).other W14 (Ne.symm ne58)).keep Kq17 nin0).other W23 (Ne.symm ne58)).keep Kq27 nin0).other W32 (Ne.symm ne58)).keep Kq35 nin0).other W40 (Ne.symm ne58)).lt sqb1_46)
  have ne64 : a1 ≠ b1_9 := Nat.ne_of_lt (Nat.lt_of_lt_of_le f7.lt sqb1_9)
  have ne65 : b1_9 ≠ b1_17 := Nat.ne_of_lt (Nat.lt_of_lt_of_le (Fq0_9.other W14 (Ne.symm ne64)).lt sqb1_17)
  have ne66 : b1_9 ≠ b1_27 := Nat.ne_of_lt (Nat.lt_of_lt_of_le (((Fq0_9.other W14 (Ne.symm ne64)).keep Kq17 nin0).other W23 (Ne.symm ne64)).lt sqb1_27)
  have ne67 : b1_9 ≠ b1_35 := Nat.ne_of_lt (Nat.lt_of_lt_of_le (((((Fq0_9.other W14 (Ne.symm ne64)).keep Kq17 nin0).other W23 (Ne.symm ne64)).keep Kq27 nin0).other W32 (Ne.symm ne64)).lt sqb1_35)
  have ne68 : b1_9 ≠ b1_46 := Nat.ne_of_lt (Nat.lt_of_lt_of_le (((((((Fq0_9.other W14 (Ne.symm ne64)).keep Kq17 nin0).other W23 (Ne.symm ne64)).keep Kq27 nin0).other W32 (Ne.symm ne64)).keep Kq35 nin0).other W40 (Ne.symm ne64)).lt sqb1_46)
  have ne69 : a1 ≠ b1_17 := Nat.ne_of_lt (Nat.lt_of_lt_of_le f15.lt sqb1_17)
  have ne70 : b1_17 ≠ b1_27 := Nat.ne_of_lt (Nat.lt_of_lt_of_le (Fq0_17.other W23 (Ne.symm ne69)).lt sqb1_27)
  have ne71 : b1_17 ≠ b1_35 := Nat.ne_of_lt (Nat.lt_of_lt_of_le (((Fq0_17.other W23 (Ne.symm ne69)).keep Kq27 nin0).other W32 (Ne.symm ne69)).lt sqb1_35)
  have ne72 : b1_17 ≠ b1_46 := Nat.ne_of_lt (Nat.lt_of_lt_of_le (((((Fq0_17.other W23 (Ne.symm ne69)).keep Kq27 nin0).other W32 (Ne.symm ne69)).keep Kq35 nin0).other W40 (Ne.symm ne69)).lt sqb1_46)
  have ne73 : a1 ≠ b1_27 := Nat.ne_of_lt (Nat.lt_of_lt_of_le f25.lt sqb1_27)
  have ne74 : b1_27 ≠ b1_35 := Nat.ne_of_lt (Nat.lt_of_lt_of_le (Fq0_27.other W32 (Ne.symm ne73)).lt sqb1_35)
  have ne75 : b1_27 ≠ b1_46 := Nat.ne_of_lt (Nat.lt_of_lt_of_le (((Fq0_27.other W32 (Ne.symm ne73)).keep Kq35 nin0).other W40 (Ne.symm ne73)).lt sqb1_46)
  have ne76 : a1 ≠ b1_35 := Nat.ne_of_lt (Nat.lt_of_lt_of_le f33.lt sqb1_35)
  have ne77 : b1_35 ≠ b1_46 := Nat.ne_of_lt (Nat.lt_of_lt_of_le (Fq0_35.other W40 (Ne.symm ne76)).lt sqb1_46)
  have f78 := ((f42.keep Kq46 nin0).other W51 (Or.inr (sn26 hw)))
  have f79 := ((((((((((((P2.keep Kq2 nin0).other W6 (Or.inr (sn15 hw))).keep Kq9 nin0).other W14 (Or.inr (sn16 hw))).keep Kq17 nin0).other W23 (Or.inr (sn17 hw))).keep Kq27 nin0).other W32 (Or.inr (sn18 hw))).keep Kq35 nin0).other W40 (Or.inr (sn19 hw))).keep Kq46 nin0).other W51 (Or.inr (sn20 hw)))
  have f80 := ((((((((((((P15.keep Kq2 nin0).other W6 (Or.inr (sn56 hw))).keep Kq9 nin0).other W14 (Or.inr (sn57 hw))).keep Kq17 nin0).other W23 (Or.inr (sn58 hw))).keep Kq27 nin0).other W32 (Or.inr (sn59 hw))).keep Kq35 nin0).other W40 (Or.inr (sn60 hw))).keep Kq46 nin0).other W51 (Or.inr (sn61 hw)))
  have f81 := ((((((((((((P16.keep Kq2 nin0).other W6 (Or.inr (sn64 hw))).keep Kq9 nin0).other W14 (Or.inr (sn65 hw))).keep Kq17 nin0).other W23 (Or.inr (sn66 hw))).keep Kq27 nin0).other W32 (Or.inr (sn67 hw))).keep Kq35 nin0).other W40 (Or.inr (sn68 hw))).keep Kq46 nin0).other W51 (Or.inr (sn69 hw)))
  have f82 := ((((((((((((P17.keep Kq2 nin0).other W6 (Or.inr (sn72 hw))).keep Kq9 nin0).other W14 (Or.inr (sn73 hw))).keep Kq17 nin0).other W23 (Or.inr (sn74 hw))).keep Kq27 nin0).other W32 (Or.inr (sn75 hw))).keep Kq35 nin0).other W40 (Or.inr (sn76 hw))).keep Kq46 nin0).other W51 (Or.inr (sn77 hw)))
  have f83 := (((((((((((Fq0_2.other W6 (Ne.symm ne58)).keep Kq9 nin0).other W14 (Ne.symm ne58)).keep Kq17 nin0).other W23 (Ne.symm ne58)).keep Kq27 nin0).other W32 (Ne.symm ne58)).keep Kq35 nin0).other W40 (Ne.symm ne58)).keep Kq46 nin0).other W51 (Ne.symm ne58))
  have f84 := (((((((((Fq0_9.other W14 (Ne.symm ne64)).keep Kq17 nin0).other W23 (Ne.symm ne64)).keep Kq27 nin0).other W32 (Ne.symm ne64)).keep Kq35 nin0).other W40 (Ne.symm ne64)).keep Kq46 nin0).other W51 (Ne.symm ne64))
  have f85 := (((((((Fq0_17.other W23 (Ne.symm ne69)).keep Kq27 nin0).other W32 (Ne.symm ne69)).keep Kq35 nin0).other W40 (Ne.symm ne69)).keep Kq46 nin0).other W51 (Ne.symm ne69))
  have f86 := (((((Fq0_27.other W32 (Ne.symm ne73)).keep Kq35 nin0).other W40 (Ne.symm ne73)).keep Kq46 nin0).other W51 (Ne.symm ne73))
  have f87 := (((Fq0_35.other W40 (Ne.symm ne76)).keep Kq46 nin0).other W51 (Ne.symm ne76))
  have ne88 : a1 ≠ b1_46 := Nat.ne_of_lt (Nat.lt_of_lt_of_le f44.lt sqb1_46)
  have f89 := (Fq0_46.other W51 (Ne.symm ne88))
  exact ⟨b1_2, b1_9, b1_17, b1_27, b1_35, b1_46, rfl, (Fr.snoc X51 N46 ge_a1), K52, gqb1_2, s3, gqb1_9, s11, gqb1_17, s20, gqb1_27, s29, gqb1_35, s37, gqb1_46, s48, ne59, ne60, ne61, ne62, ne63, ne65, ne66, ne67, ne68, ne70, ne71, ne72, ne74, ne75, ne77, f78, f79, f53, f54, f55, f56, f57, F51, f80, f81, f82, f83, f84, f85, f86, f87, f89⟩
theorem d3_56 : decode prog_12_method_2_code 56 = .ok (.aload_n 0, 1) := by decide +kernel
theorem d3_57 : decode prog_12_method_2_code 57 = .ok (.getfield 26, 3) := by decide +kernel
theorem d3_60 : decode prog_12_method_2_code 60 = .ok (.iload 6, 2) := by decide +kernel
theorem d3_62 : decode prog_12_method_2_code 62 = .ok (.iload 5, 2) := by decide +kernel
theorem d3_64 : decode prog_12_method_2_code 64 = .ok (.iastore, 1) := by decide +kernel
theorem ef_rm_addA1 (m : MethodId) (x0 : Addr) (x1 : Int32) (x2 : Int32) (x3 : UInt64) (x4 : Int32) : entryFrame m #[(.ref x0), (.int x1), (.int x2), (.double x3), (.int x4)] 7 = mkF m 0 #[.val (.ref x0), .val (.int x1), .val (.int x2), .val (.double x3), .second, .val (.int x4), .unset] [] := by first | (simp [entryFrame, mkF, argsToLocals, Value.category]; done) | rfl
abbrev Q_rm_addA1 (Z : State) (a1 : Addr) (i1 : Int32) (i2 : Int32) (d1 : UInt64) (i3 : Int32) (x1 : Addr) (x2 : Addr) (x3 : Addr) (x4 : Addr) (x5 : Addr) (x6 : Addr) (x7 : Addr) (g1 : Nat → Int32) (g2 : Nat → Int32) (g3 : Nat → Int32) (g4 : Nat → Int32) (g5 : Nat → UInt64) (g6 : Nat → Int32) (t2 : Int32) (u1 : Int64) (h0 : Heap) (n0 : Nat) : Option Value → Heap → List Loc → Prop := fun v h L => ∃ (b1 : Addr) (b2 : Addr) (b3 : Addr) (b4 : Addr) (b5 : Addr) (b6 : Addr), v = some (.int (0 : Int32)) ∧ Fr n0 L ∧ Keep h0 h [a1] ∧ n0 ≤ b1 ∧ h0.size ≤ b1 ∧ n0 ≤ b2 ∧ h0.size ≤ b2 ∧ n0 ≤ b3 ∧ h0.size ≤ b3 ∧ n0 ≤ b4 ∧ h0.size ≤ b4 ∧ n0 ≤ b5 ∧ h0.size ≤ b5 ∧ n0 ≤ b6 ∧ h0.size ≤ b6 ∧ b1 ≠ b2 ∧ b1 ≠ b3 ∧ b1 ≠ b4 ∧ b1 ≠ b5 ∧ b1 ≠ b6 ∧ b2 ≠ b3 ∧ b2 ≠ b4 ∧ b2 ≠ b5 ∧ b2 ≠ b6 ∧ b3 ≠ b4 ∧ b3 ≠ b5 ∧ b3 ≠ b6 ∧ b4 ≠ b5 ∧ b4 ≠ b6 ∧ b5 ≠ b6 ∧ Fld Z h a1 kES "keyed" "Z" (.int (1 : Int32)) ∧ Fld Z h a1 kES "keptNumbers" "[J" (.ref x7) ∧ Fld Z h a1 kES "sources" "[I" (.ref b1) ∧ Fld Z h a1 kES "targets" "[I" (.ref b2) ∧ Fld Z h a1 kES "sourcePositions" "[I" (.ref b3) ∧ Fld Z h a1 kES "targetPositions" "[I" (.ref b4) ∧ Fld Z h a1 kES "weights" "[D" (.ref b5) ∧ Fld Z h a1 kES "keys" "[I" (.ref b6) ∧ Fld Z h a1 kES "bound" "I" (.int (1 : Int32)) ∧ Fld Z h a1 kES "count" "I" (.int (t2 + (1 : Int32))) ∧ Fld Z h a1 kES "nextNumber" "J" (.long (u1 + (1 : Int64))) ∧ ArF Z h b1 .int 4 (fun i => .int ((upI (fun _ => (0 : Int32)) 0 i1) i)) ∧ ArF Z h b2 .int 4 (fun i => .int ((upI (fun _ => (0 : Int32)) 0 i2) i)) ∧ ArF Z h b3 .int 4 (fun i => .int ((fun _ => (0 : Int32)) i)) ∧ ArF Z h b4 .int 4 (fun i => .int ((fun _ => (0 : Int32)) i)) ∧ ArF Z h b5 .double 4 (fun i => .double ((upD (fun _ => (0 : UInt64)) 0 d1) i)) ∧ ArF Z h b6 .int 4 (fun i => .int ((upI (fun _ => (0 : Int32)) 0 i3) i))
set_option maxRecDepth 65536 in
set_option maxHeartbeats 40000000 in
theorem rm_addA1 (l : Launch) (Z : State) (a0 : Array Value) (hw : ∀ d ∈ tables_1, d.before a0 Z = true) (a1 : Addr) (i1 : Int32) (i2 : Int32) (d1 : UInt64) (i3 : Int32) (x1 : Addr) (x2 : Addr) (x3 : Addr) (x4 : Addr) (x5 : Addr) (x6 : Addr) (x7 : Addr) (g1 : Nat → Int32) (g2 : Nat → Int32) (g3 : Nat → Int32) (g4 : Nat → Int32) (g5 : Nat → UInt64) (g6 : Nat → Int32) (t2 : Int32) (u1 : Int64) (h0 : Heap) (n0 : Nat) (Z0 : n0 ≤ h0.size) (P0 : Exa Z h0 a1 kES) (P1 : Fld Z h0 a1 kES "keyed" "Z" (.int (1 : Int32))) (P2 : Fld Z h0 a1 kES "keptNumbers" "[J" (.ref x7)) (P3 : Fld Z h0 a1 kES "sources" "[I" (.ref x1)) (P4 : Fld Z h0 a1 kES "targets" "[I" (.ref x2)) (P5 : Fld Z h0 a1 kES "sourcePositions" "[I" (.ref x3)) (P6 : Fld Z h0 a1 kES "targetPositions" "[I" (.ref x4)) (P7 : Fld Z h0 a1 kES "weights" "[D" (.ref x5)) (P8 : Fld Z h0 a1 kES "keys" "[I" (.ref x6)) (P9 : ArF Z h0 x1 .int 0 (fun i => .int (g1 i))) (P10 : ArF Z h0 x2 .int 0 (fun i => .int (g2 i))) (P11 : ArF Z h0 x3 .int 0 (fun i => .int (g3 i))) (P12 : ArF Z h0 x4 .int 0 (fun i => .int (g4 i))) (P13 : ArF Z h0 x5 .double 0 (fun i => .double (g5 i))) (P14 : ArF Z h0 x6 .int 0 (fun i => .int (g6 i))) (P15 : Fld Z h0 a1 kES "bound" "I" (.int (0 : Int32))) (P16 : Fld Z h0 a1 kES "count" "I" (.int t2)) (P17 : Fld Z h0 a1 kES "nextNumber" "J" (.long u1)) (ne_x1_a1 : x1 ≠ a1) (ne_x2_a1 : x2 ≠ a1) (ne_x3_a1 : x3 ≠ a1) (ne_x4_a1 : x4 ≠ a1) (ne_x5_a1 : x5 ≠ a1) (ne_x6_a1 : x6 ≠ a1) (ge_a1 : n0 ≤ a1) :
    Con l Z (⟨"com/example/edgewise/edgewise/EdgeSlots", "add", "(IIDI)I"⟩ : MethodName) prog_12_method_2_code 7 (some .int) ({ frames := 3, cells := 6, slots := 24, locals := 68 } : Room) #[(.ref a1), (.int i1), (.int i2), (.double d1), (.int i3)] h0 (Q_rm_addA1 Z a1 i1 i2 d1 i3 x1 x2 x3 x4 x5 x6 x7 g1 g2 g3 g4 g5 g6 t2 u1 h0 n0) := by
  refine meet (y := (⟨"com/example/edgewise/edgewise/EdgeSlots", "add", "(IIDI)I"⟩ : MethodName)) (Q := Q_rm_addA1 Z a1 i1 i2 d1 i3 x1 x2 x3 x4 x5 x6 x7 g1 g2 g3 g4 g5 g6 t2 u1 h0 n0) (plainFor_of_name pn_com_example_edgewise_edgewise_EdgeSlots) (fun m => ef_rm_addA1 m a1 i1 i2 d1 i3) ?_
  intro p e s m below meth c T0 hx hby hml hZ hown hnm hret hlk X0 e0
  have N0 := Fr.nil n0
  have K0 := Keep.refl h0 [a1]
  refine g_aloadN X0 hx hby d3_0 (pc' := 1) rfl rfl rfl ?_
  refine g_getf X0 hx hby hZ hown (host := "") (Or.inl (wi hw 35 rfl)) Via.refl e0 P15 d3_1 (pc' := 4) rfl ?_
  intro T1 X1 e1
  refine g_istore X1 hx hby d3_4 (pc' := 6) rfl (L' := #[.val (.ref a1), .val (.int i1), .val (.int i2), .val (.double d1), .second, .val (.int i3), .val (.int (0 : Int32))]) rfl ?_
  refine g_iload X1 hx hby d3_6 (pc' := 8) rfl rfl ?_
  refine g_aloadN X1 hx hby d3_8 (pc' := 9) rfl rfl rfl ?_
  refine g_getf X1 hx hby hZ hown (host := "") (Or.inl (wi hw 13 rfl)) Via.refl e1 P3 d3_9 (pc' := 12) rfl ?_
  intro T2 X2 e2
  refine Go.alen X2 hx hZ e2 P9 (z := (0 : Int32)) rfl (hb hby d3_12) (pc' := 13) rfl ?_
  have hc13 : (0 : Int) = (0 : Int) := by decide
  refine g_icmpNo X2 hx hby d3_13 (pc' := 16) (teq (show (0 : Int32) = (0 : Int32) from Int32.toInt_inj.mp hc13)).2 rfl ?_
  refine g_aloadN X2 hx hby d3_16 (pc' := 17) rfl rfl rfl ?_
  refine g_iload X2 hx hby d3_17 (pc' := 19) rfl rfl ?_
  refine Go.callS X2 hx hZ hown (wi hw 37 rfl) (wi hw 38 rfl) (wi hw 39 rfl) (wi hw 40 rfl) (by decide) e2 (argsL := [(.int (0 : Int32))]) (rest := [(.ref a1)]) (W := 1) (rm_next0 l Z a0 hw  h0 n0 Z0 ) (hb hby d3_19) (by rw [hml]; rfl) rfl pd4 rfl rfl (by decide) (by decide) (by decide) (by decide) ?_
  intro v3 T3 L3 X3 hQ3
  obtain ⟨rfl, Nq3, hh3⟩ := hQ3
  have N3 := Fr.app N0 Nq3
  refine Go.push (pc' := 22) rfl ?_
  refine Go.callP X3 hx hZ (y := (⟨"com/example/edgewise/edgewise/EdgeSlots", "resize", "(I)V"⟩ : MethodName)) hown (wi hw 52 rfl) (wi hw 53 rfl) (wi hw 5 rfl) (wi hw 54 rfl) (wi hw 6 rfl) (wi hw 55 rfl) (by decide) hh3 (a := a1)  (argsL := [(.int (4 : Int32))]) (rest := []) (W := 0) P0 (rm_resize1 l Z a0 hw a1 x1 x2 x3 x4 x5 x6 x7 g1 g2 g3 g4 g5 g6 (0 : Int32) t2 u1 h0 n0 Z0 P0 P1 P2 P3 P4 P5 P6 P7 P8 P9 P10 P11 P12 P13 P14 P15 P16 P17 ne_x1_a1 ne_x2_a1 ne_x3_a1 ne_x4_a1 ne_x5_a1 ne_x6_a1 ge_a1) (hb hby d3_22) (by rw [hml]; rfl) rfl pd5 rfl rfl (by decide) (by decide) (by decide) (by decide) ?_
  intro v4 T4 L4 X4 hQ4
  obtain ⟨h4, e4⟩ : ∃ z, T4.heap = z := ⟨_, rfl⟩
  rw [e4] at hQ4
  obtain ⟨b1_4, b2_4, b3_4, b4_4, b5_4, b6_4, rfl, Nq4, Kq4, gqb1_4, sqb1_4, gqb2_4, sqb2_4, gqb3_4, sqb3_4, gqb4_4, sqb4_4, gqb5_4, sqb5_4, gqb6_4, sqb6_4, nqb1_b2_4, nqb1_b3_4, nqb1_b4_4, nqb1_b5_4, nqb1_b6_4, nqb2_b3_4, nqb2_b4_4, nqb2_b5_4, nqb2_b6_4, nqb3_b4_4, nqb3_b5_4, nqb3_b6_4, nqb4_b5_4, nqb4_b6_4, nqb5_b6_4, Fq0_4, Fq1_4, Fq2_4, Fq3_4, Fq4_4, Fq5_4, Fq6_4, Fq7_4, Fq8_4, Fq9_4, Fq10_4, Fq11_4, Fq12_4, Fq13_4, Fq14_4, Fq15_4, Fq16_4⟩ := hQ4
  have N4 := Fr.app N3 Nq4
  have s5 : h0.size ≤ b1_4 := Nat.le_trans K0.1 sqb1_4
  have s6 : h0.size ≤ b2_4 := Nat.le_trans K0.1 sqb2_4
  have s7 : h0.size ≤ b3_4 := Nat.le_trans K0.1 sqb3_4
  have s8 : h0.size ≤ b4_4 := Nat.le_trans K0.1 sqb4_4
  have s9 : h0.size ≤ b5_4 := Nat.le_trans K0.1 sqb5_4
  have s10 : h0.size ≤ b6_4 := Nat.le_trans K0.1 sqb6_4
  refine Go.void (pc' := 25) rfl ?_
  refine g_aloadN X4 hx hby d3_25 (pc' := 26) rfl rfl rfl ?_
  refine g_getf X4 hx hby hZ hown (host := "") (Or.inl (wi hw 13 rfl)) Via.refl e4 Fq2_4 d3_26 (pc' := 29) rfl ?_
  intro T11 X11 e11
  refine g_iload X11 hx hby d3_29 (pc' := 31) rfl rfl ?_
  refine g_iloadN X11 hx hby d3_31 (pc' := 32) rfl rfl ?_
  refine Go.iastore X11 hx hZ e11 Fq11_4 (k := 0) rfl (by decide) (hb hby d3_32) (pc' := 33) rfl ?_
  intro T12 h12 X12 e12 W12 V12
  refine g_aloadN X12 hx hby d3_33 (pc' := 34) rfl rfl rfl ?_
  have ne13 : a1 ≠ b1_4 := Nat.ne_of_lt (Nat.lt_of_lt_of_le P17.lt sqb1_4)
  have f14 := (Fq3_4.other W12 (Or.inl ne13))
  refine g_getf X12 hx hby hZ hown (host := "") (Or.inl (wi hw 15 rfl)) Via.refl e12 f14 d3_34 (pc' := 37) rfl ?_
  intro T15 X15 e15
  refine g_iload X15 hx hby d3_37 (pc' := 39) rfl rfl ?_
  refine g_iloadN X15 hx hby d3_39 (pc' := 40) rfl rfl ?_
  have f16 := (Fq12_4.other W12 (Ne.symm nqb1_b2_4))
  refine Go.iastore X15 hx hZ e15 f16 (k := 0) rfl (by decide) (hb hby d3_40) (pc' := 41) rfl ?_
  intro T17 h17 X17 e17 W17 V17
  refine g_aloadN X17 hx hby d3_41 (pc' := 42) rfl rfl rfl ?_
  have ne18 : a1 ≠ b2_4 := Nat.ne_of_lt (Nat.lt_of_lt_of_le P17.lt sqb2_4)
  have f19 := ((Fq6_4.other W12 (Or.inl ne13)).other W17 (Or.inl ne18))
  refine g_getf X17 hx hby hZ hown (host := "") (Or.inl (wi hw 22 rfl)) Via.refl e17 f19 d3_42 (pc' := 45) rfl ?_
  intro T20 X20 e20
  refine g_iload X20 hx hby d3_45 (pc' := 47) rfl rfl ?_
  refine g_dloadN X20 hx hby d3_47 (pc' := 48) rfl rfl ?_
  have f21 := ((Fq15_4.other W12 (Ne.symm nqb1_b5_4)).other W17 (Ne.symm nqb2_b5_4))
  refine Go.dastore X20 hx hZ e20 f21 (k := 0) rfl (by decide) (hb hby d3_48) (pc' := 49) rfl ?_
  intro T22 h22 X22 e22 W22 V22
  have z23 : n0 ≤ h22.size := (Nat.le_trans (Nat.le_trans (Nat.le_trans (Nat.le_trans Z0 Kq4.1) (Nat.le_of_eq (Wr.size W12).symm)) (Nat.le_of_eq (Wr.size W17).symm)) (Nat.le_of_eq (Wr.size W22).symm))
  refine g_aloadN X22 hx hby d3_49 (pc' := 50) rfl rfl rfl ?_
  have ne24 : a1 ≠ b5_4 := Nat.ne_of_lt (Nat.lt_of_lt_of_le P17.lt sqb5_4)
  have f25 := (((Fq0_4.other W12 (Or.inl ne13)).other W17 (Or.inl ne18)).other W22 (Or.inl ne24))
  refine g_getf X22 hx hby hZ hown (host := "") (Or.inl (wi hw 28 rfl)) Via.refl e22 f25 d3_50 (pc' := 53) rfl ?_
  intro T26 X26 e26
  have hc53 : ¬ ((1 : Int) = (0 : Int)) := by decide
  refine g_ifNo X26 hx hby d3_53 (pc' := 56) (feq (show ¬ ((1 : Int32) = (0 : Int32)) from fun q => hc53 (congrArg Int32.toInt q))).1 rfl ?_
  refine g_aloadN X26 hx hby d3_56 (pc' := 57) rfl rfl rfl ?_
  have f27 := (((Fq7_4.other W12 (Or.inl ne13)).other W17 (Or.inl ne18)).other W22 (Or.inl ne24))
  refine g_getf X26 hx hby hZ hown (host := "") (Or.inl (wi hw 24 rfl)) Via.refl e26 f27 d3_57 (pc' := 60) rfl ?_
  intro T28 X28 e28
  refine g_iload X28 hx hby d3_60 (pc' := 62) rfl rfl ?_
  refine g_iload X28 hx hby d3_62 (pc' := 64) rfl rfl ?_
  have f29 := (((Fq16_4.other W12 (Ne.symm nqb1_b6_4)).other W17 (Ne.symm nqb2_b6_4)).other W22 (Ne.symm nqb5_b6_4))
  refine Go.iastore X28 hx hZ e28 f29 (k := 0) rfl (by decide) (hb hby d3_64) (pc' := 65) rfl ?_
  intro T30 h30 X30 e30 W30 V30
  refine g_aloadN X30 hx hby d3_65 (pc' := 66) rfl rfl rfl ?_
  refine g_iload X30 hx hby d3_66 (pc' := 68) rfl rfl ?_
  refine g_iconst X30 hx hby d3_68 (pc' := 69) rfl (z := (1 : Int32)) rfl ?_
  refine g_iadd X30 hx hby d3_69 (pc' := 70) rfl (z := (1 : Int32)) rfl ?_
  have ne31 : a1 ≠ b6_4 := Nat.ne_of_lt (Nat.lt_of_lt_of_le P17.lt sqb6_4)
  have f32 := ((((Fq8_4.other W12 (Or.inl ne13)).other W17 (Or.inl ne18)).other W22 (Or.inl ne24)).other W30 (Or.inl ne31))
  have f33 := (((((P0.keep Kq4).wr W12).wr W17).wr W22).wr W30)
  refine g_putf X30 hx hby hZ hown (host := "") (Or.inl (wi hw 35 rfl)) Via.refl e30 f32 f33 (Or.inl (wi hw 36 rfl)) (wi hw 5 rfl) (ty := .int) (by decide) rfl rfl d3_70 (pc' := 73) rfl ?_
  intro T34 h34 X34 e34 W34 F34
  have K35 : Keep h0 h34 [a1] := ((((((K0.trans Kq4 (allS (Or.inl (List.mem_of_getElem? (i := 0) rfl)) all0)).wr W12 (Or.inr s5)).wr W17 (Or.inr s6)).wr W22 (Or.inr s9)).wr W30 (Or.inr s10)).wr W34 (Or.inl (List.mem_of_getElem? (i := 0) rfl)))
  refine g_aloadN X34 hx hby d3_73 (pc' := 74) rfl rfl rfl ?_
  refine g_dup X34 hx hby d3_74 (pc' := 75) rfl rfl ?_
  have f36 := (((((Fq9_4.other W12 (Or.inl ne13)).other W17 (Or.inl ne18)).other W22 (Or.inl ne24)).other W30 (Or.inl ne31)).other W34 (Or.inr (sn80 hw)))
  refine g_getf X34 hx hby hZ hown (host := "") (Or.inl (wi hw 70 rfl)) Via.refl e34 f36 d3_75 (pc' := 78) rfl ?_
  intro T37 X37 e37
  refine g_iconst X37 hx hby d3_78 (pc' := 79) rfl (z := (1 : Int32)) rfl ?_
  refine g_iadd X37 hx hby d3_79 (pc' := 80) rfl rfl ?_
  have f38 := f33.wr W34
  refine g_putf X37 hx hby hZ hown (host := "") (Or.inl (wi hw 70 rfl)) Via.refl e37 f36 f38 (Or.inl (wi hw 71 rfl)) (wi hw 5 rfl) (ty := .int) (by decide) rfl rfl d3_80 (pc' := 83) rfl ?_
  intro T39 h39 X39 e39 W39 F39
  have N39 := (Fr.snoc X39 (Fr.snoc X34 (Fr.snoc X30 (Fr.snoc X22 (Fr.snoc X17 (Fr.snoc X12 N4 gqb1_4) gqb2_4) gqb5_4) gqb6_4) ge_a1) ge_a1)
  refine g_aloadN X39 hx hby d3_83 (pc' := 84) rfl rfl rfl ?_
  refine g_dup X39 hx hby d3_84 (pc' := 85) rfl rfl ?_
  have f40 := ((((((Fq10_4.other W12 (Or.inl ne13)).other W17 (Or.inl ne18)).other W22 (Or.inl ne24)).other W30 (Or.inl ne31)).other W34 (Or.inr (sn81 hw))).other W39 (Or.inr (sn82 hw)))
  refine g_getf X39 hx hby hZ hown (host := "") (Or.inl (wi hw 72 rfl)) Via.refl e39 f40 d3_85 (pc' := 88) rfl ?_
  intro T41 X41 e41
  refine Go.of (fun _ k => XS.lconst X41.here hx rfl (hb hby d3_88) k) ?_
  show Go p.tables e below s _ _ _ (T41.setTop (mkF m 89 #[.val (.ref a1), .val (.int i1), .val (.int i2), .val (.double d1), .second, .val (.int i3), .val (.int (0 : Int32))] [(.long (1 : Int64)), (.long u1), (.ref a1)]))
  refine g_ladd X41 hx hby d3_89 (pc' := 90) rfl rfl ?_
  have f42 := f38.wr W39
  refine g_putf X41 hx hby hZ hown (host := "") (Or.inl (wi hw 72 rfl)) Via.refl e41 f40 f42 (Or.inl (wi hw 73 rfl)) (wi hw 5 rfl) (ty := .long) (by decide) rfl rfl d3_90 (pc' := 93) rfl ?_
  intro T43 h43 X43 e43 W43 F43
  have z44 : n0 ≤ h43.size := (Nat.le_trans (Nat.le_trans (Nat.le_trans (Nat.le_trans z23 (Nat.le_of_eq (Wr.size W30).symm)) (Nat.le_of_eq (Wr.size W34).symm)) (Nat.le_of_eq (Wr.size W39).symm)) (Nat.le_of_eq (Wr.size W43).symm))
  refine g_iload X43 hx hby d3_93 (pc' := 95) rfl rfl ?_
  refine Go.retI X43 hx hlk hret (hb hby d3_95) (by decide) (by decide) ?_
  have f45 := (((((((Fq2_4.other W12 (Or.inl ne13)).other W17 (Or.inl ne18)).other W22 (Or.inl ne24)).other W30 (Or.inl ne31)).other W34 (Or.inr (sn83 hw))).other W39 (Or.inr (sn84 hw))).other W43 (Or.inr (sn85 hw)))
  have f46 := ((((((f14.other W17 (Or.inl ne18)).other W22 (Or.inl ne24)).other W30 (Or.inl ne31)).other W34 (Or.inr (sn86 hw))).other W39 (Or.inr (sn87 hw))).other W43 (Or.inr (sn88 hw)))
  have f47 := (((((((Fq4_4.other W12 (Or.inl ne13)).other W17 (Or.inl ne18)).other W22 (Or.inl ne24)).other W30 (Or.inl ne31)).other W34 (Or.inr (sn89 hw))).other W39 (Or.inr (sn90 hw))).other W43 (Or.inr (sn91 hw)))
  have f48 := (((((((Fq5_4.other W12 (Or.inl ne13)).other W17 (Or.inl ne18)).other W22 (Or.inl ne24)).other W30 (Or.inl ne31)).other W34 (Or.inr (sn92 hw))).other W39 (Or.inr (sn93 hw))).other W43 (Or.inr (sn94 hw)))
  have f49 := (((((f19.other W22 (Or.inl ne24)).other W30 (Or.inl ne31)).other W34 (Or.inr (sn95 hw))).other W39 (Or.inr (sn96 hw))).other W43 (Or.inr (sn97 hw)))
  have f50 := ((((f27.other W30 (Or.inl ne31)).other W34 (Or.inr (sn104 hw))).other W39 (Or.inr (sn105 hw))).other W43 (Or.inr (sn106 hw)))
  rw [e43]
  have f51 := ((((f25.other W30 (Or.inl ne31)).other W34 (Or.inr (sn98 hw))).other W39 (Or.inr (sn99 hw))).other W43 (Or.inr (sn100 hw)))
  have f52 := (((((((Fq1_4.other W12 (Or.inl ne13)).other W17 (Or.inl ne18)).other W22 (Or.inl ne24)).other W30 (Or.inl ne31)).other W34 (Or.inr (sn101 hw))).other W39 (Or.inr (sn102 hw))).other W43 (Or.inr (sn103 hw)))
  have f53 := ((F34.other W39 (Or.inr (sn107 hw))).other W43 (Or.inr (sn108 hw)))
  have f54 := (F39.other W43 (Or.inr (sn109 hw)))
  have f55 := ((((((V12.other W17 nqb1_b2_4).other W22 nqb1_b5_4).other W30 nqb1_b6_4).other W34 (Ne.symm ne13)).other W39 (Ne.symm ne13)).other W43 (Ne.symm ne13))
  have f56 := (((((V17.other W22 nqb2_b5_4).other W30 nqb2_b6_4).other W34 (Ne.symm ne18)).other W39 (Ne.symm ne18)).other W43 (Ne.symm ne18))
  have ne57 : a1 ≠ b3_4 := Nat.ne_of_lt (Nat.lt_of_lt_of_le P17.lt sqb3_4)
  have f58 := (((((((Fq13_4.other W12 (Ne.symm nqb1_b3_4)).other W17 (Ne.symm nqb2_b3_4)).other W22 nqb3_b5_4).other W30 nqb3_b6_4).other W34 (Ne.symm ne57)).other W39 (Ne.symm ne57)).other W43 (Ne.symm ne57))
  have ne59 : a1 ≠ b4_4 := Nat.ne_of_lt (Nat.lt_of_lt_of_le P17.lt sqb4_4)
  have f60 := (((((((Fq14_4.other W12 (Ne.symm nqb1_b4_4)).other W17 (Ne.symm nqb2_b4_4)).other W22 nqb4_b5_4).other W30 nqb4_b6_4).other W34 (Ne.symm ne59)).other W39 (Ne.symm ne59)).other W43 (Ne.symm ne59))
  have f61 := ((((V22.other W30 nqb5_b6_4).other W34 (Ne.symm ne24)).other W39 (Ne.symm ne24)).other W43 (Ne.symm ne24))
  have f62 := (((V30.other W34 (Ne.symm ne31)).other W39 (Ne.symm ne31)).other W43 (Ne.symm ne31))
  exact ⟨b1_4, b2_4, b3_4, b4_4, b5_4, b6_4, rfl, (Fr.snoc X43 N39 ge_a1), ((K35.wr W39 (Or.inl (List.mem_of_getElem? (i := 0) rfl))).wr W43 (Or.inl (List.mem_of_getElem? (i := 0) rfl))), gqb1_4, s5, gqb2_4, s6, gqb3_4, s7, gqb4_4, s8, gqb5_4, s9, gqb6_4, s10, nqb1_b2_4, nqb1_b3_4, nqb1_b4_4, nqb1_b5_4, nqb1_b6_4, nqb2_b3_4, nqb2_b4_4, nqb2_b5_4, nqb2_b6_4, nqb3_b4_4, nqb3_b5_4, nqb3_b6_4, nqb4_b5_4, nqb4_b6_4, nqb5_b6_4, f51, f52, f45, f46, f47, f48, f49, f50, f53, f54, F43, f55, f56, f58, f60, f61, f62⟩
theorem ef_rm_addB1 (m : MethodId) (x0 : Addr) (x1 : Int32) (x2 : Int32) (x3 : UInt64) (x4 : Int32) : entryFrame m #[(.ref x0), (.int x1), (.int x2), (.double x3), (.int x4)] 7 = mkF m 0 #[.val (.ref x0), .val (.int x1), .val (.int x2), .val (.double x3), .second, .val (.int x4), .unset] [] := by first | (simp [entryFrame, mkF, argsToLocals, Value.category]; done) | rfl
abbrev Q_rm_addB1 (Z : State) (a1 : Addr) (i1 : Int32) (i2 : Int32) (d1 : UInt64) (i3 : Int32) (x1 : Addr) (x2 : Addr) (x3 : Addr) (x4 : Addr) (x5 : Addr) (x6 : Addr) (x7 : Addr) (g1 : Nat → Int32) (g2 : Nat → Int32) (g5 : Nat → UInt64) (g6 : Nat → Int32) (t1 : Int32) (t2 : Int32) (u1 : Int64) (k1 : Nat) (h0 : Heap) (n0 : Nat) : Option Value → Heap → List Loc → Prop := fun v h L => v = some (.int t1) ∧ Fr n0 L ∧ Keep h0 h [a1, x1, x2, x5, x6] ∧ Fld Z h a1 kES "keyed" "Z" (.int (1 : Int32)) ∧ Fld Z h a1 kES "keptNumbers" "[J" (.ref x7) ∧ Fld Z h a1 kES "sources" "[I" (.ref x1) ∧ Fld Z h a1 kES "targets" "[I" (.ref x2) ∧ Fld Z h a1 kES "sourcePositions" "[I" (.ref x3) ∧ Fld Z h a1 kES "targetPositions" "[I" (.ref x4) ∧ Fld Z h a1 kES "weights" "[D" (.ref x5) ∧ Fld Z h a1 kES "keys" "[I" (.ref x6) ∧ Fld Z h a1 kES "bound" "I" (.int (t1 + (1 : Int32))) ∧ Fld Z h a1 kES "count" "I" (.int (t2 + (1 : Int32))) ∧ Fld Z h a1 kES "nextNumber" "J" (.long (u1 + (1 : Int64))) ∧ ArF Z h x1 .int 4 (fun i => .int ((upI g1 k1 i1) i)) ∧ ArF Z h x2 .int 4 (fun i => .int ((upI g2 k1 i2) i)) ∧ ArF Z h x5 .double 4 (fun i => .double ((upD g5 k1 d1) i)) ∧ ArF Z h x6 .int 4 (fun i => .int ((upI g6 k1 i3) i))
set_option maxRecDepth 65536 in
set_option maxHeartbeats 40000000 in
theorem rm_addB1 (l : Launch) (Z : State) (a0 : Array Value) (hw : ∀ d ∈ tables_1, d.before a0 Z = true) (a1 : Addr) (i1 : Int32) (i2 : Int32) (d1 : UInt64) (i3 : Int32) (x1 : Addr) (x2 : Addr) (x3 : Addr) (x4 : Addr) (x5 : Addr) (x6 : Addr) (x7 : Addr) (g1 : Nat → Int32) (g2 : Nat → Int32) (g5 : Nat → UInt64) (g6 : Nat → Int32) (t1 : Int32) (t2 : Int32) (u1 : Int64) (k1 : Nat) (h0 : Heap) (n0 : Nat) (Z0 : n0 ≤ h0.size) (P0 : Exa Z h0 a1 kES) (P1 : Fld Z h0 a1 kES "keyed" "Z" (.int (1 : Int32))) (P2 : Fld Z h0 a1 kES "keptNumbers" "[J" (.ref x7)) (P3 : Fld Z h0 a1 kES "sources" "[I" (.ref x1)) (P4 : Fld Z h0 a1 kES "targets" "[I" (.ref x2)) (P5 : Fld Z h0 a1 kES "sourcePositions" "[I" (.ref x3)) (P6 : Fld Z h0 a1 kES "targetPositions" "[I" (.ref x4)) (P7 : Fld Z h0 a1 kES "weights" "[D" (.ref x5)) (P8 : Fld Z h0 a1 kES "keys" "[I" (.ref x6)) (P9 : ArF Z h0 x1 .int 4 (fun i => .int (g1 i))) (P10 : ArF Z h0 x2 .int 4 (fun i => .int (g2 i))) (P11 : ArF Z h0 x5 .double 4 (fun i => .double (g5 i))) (P12 : ArF Z h0 x6 .int 4 (fun i => .int (g6 i))) (P13 : Fld Z h0 a1 kES "bound" "I" (.int t1)) (P14 : Fld Z h0 a1 kES "count" "I" (.int t2)) (P15 : Fld Z h0 a1 kES "nextNumber" "J" (.long u1)) (ne_x1_a1 : x1 ≠ a1) (ne_x2_a1 : x2 ≠ a1) (ne_x5_a1 : x5 ≠ a1) (ne_x6_a1 : x6 ≠ a1) (ne_x1_x2 : x1 ≠ x2) (ne_x1_x5 : x1 ≠ x5) (ne_x1_x6 : x1 ≠ x6) (ne_x2_x5 : x2 ≠ x5) (ne_x2_x6 : x2 ≠ x6) (ne_x5_x6 : x5 ≠ x6) (ge_a1 : n0 ≤ a1) (ge_x1 : n0 ≤ x1) (ge_x2 : n0 ≤ x2) (ge_x5 : n0 ≤ x5) (ge_x6 : n0 ≤ x6) (hk : t1.toInt = (k1 : Int)) (hbd : k1 < 4) :
    Con l Z (⟨"com/example/edgewise/edgewise/EdgeSlots", "add", "(IIDI)I"⟩ : MethodName) prog_12_method_2_code 7 (some .int) ({ frames := 0, cells := 0, slots := 0, locals := 0 } : Room) #[(.ref a1), (.int i1), (.int i2), (.double d1), (.int i3)] h0 (Q_rm_addB1 Z a1 i1 i2 d1 i3 x1 x2 x3 x4 x5 x6 x7 g1 g2 g5 g6 t1 t2 u1 k1 h0 n0) := by
  refine meet (y := (⟨"com/example/edgewise/edgewise/EdgeSlots", "add", "(IIDI)I"⟩ : MethodName)) (Q := Q_rm_addB1 Z a1 i1 i2 d1 i3 x1 x2 x3 x4 x5 x6 x7 g1 g2 g5 g6 t1 t2 u1 k1 h0 n0) (plainFor_of_name pn_com_example_edgewise_edgewise_EdgeSlots) (fun m => ef_rm_addB1 m a1 i1 i2 d1 i3) ?_
  intro p e s m below meth c T0 hx hby hml hZ hown hnm hret hlk X0 e0
  have N0 := Fr.nil n0
  have K0 := Keep.refl h0 [a1, x1, x2, x5, x6]
  refine g_aloadN X0 hx hby d3_0 (pc' := 1) rfl rfl rfl ?_
  refine g_getf X0 hx hby hZ hown (host := "") (Or.inl (wi hw 35 rfl)) Via.refl e0 P13 d3_1 (pc' := 4) rfl ?_
  intro T1 X1 e1
  refine g_istore X1 hx hby d3_4 (pc' := 6) rfl (L' := #[.val (.ref a1), .val (.int i1), .val (.int i2), .val (.double d1), .second, .val (.int i3), .val (.int t1)]) rfl ?_
  refine g_iload X1 hx hby d3_6 (pc' := 8) rfl rfl ?_
  refine g_aloadN X1 hx hby d3_8 (pc' := 9) rfl rfl rfl ?_
  refine g_getf X1 hx hby hZ hown (host := "") (Or.inl (wi hw 13 rfl)) Via.refl e1 P3 d3_9 (pc' := 12) rfl ?_
  intro T2 X2 e2
  refine Go.alen X2 hx hZ e2 P9 (z := (4 : Int32)) rfl (hb hby d3_12) (pc' := 13) rfl ?_
  have hc13 : ¬ (t1.toInt = (4 : Int)) := by omega
  refine g_icmpYes X2 hx hby d3_13 (pc' := 25) (feq (show ¬ (t1 = (4 : Int32)) from fun q => hc13 (congrArg Int32.toInt q))).2 (by decide) (by decide) ?_
  refine g_aloadN X2 hx hby d3_25 (pc' := 26) rfl rfl rfl ?_
  refine g_getf X2 hx hby hZ hown (host := "") (Or.inl (wi hw 13 rfl)) Via.refl e2 P3 d3_26 (pc' := 29) rfl ?_
  intro T3 X3 e3
  refine g_iload X3 hx hby d3_29 (pc' := 31) rfl rfl ?_
  refine g_iloadN X3 hx hby d3_31 (pc' := 32) rfl rfl ?_
  refine Go.iastore X3 hx hZ e3 P9 (k := k1) hk hbd (hb hby d3_32) (pc' := 33) rfl ?_
  intro T4 h4 X4 e4 W4 V4
  refine g_aloadN X4 hx hby d3_33 (pc' := 34) rfl rfl rfl ?_
  have f5 := (P4.other W4 (Or.inl (Ne.symm ne_x1_a1)))
  refine g_getf X4 hx hby hZ hown (host := "") (Or.inl (wi hw 15 rfl)) Via.refl e4 f5 d3_34 (pc' := 37) rfl ?_
  intro T6 X6 e6
  refine g_iload X6 hx hby d3_37 (pc' := 39) rfl rfl ?_
  refine g_iloadN X6 hx hby d3_39 (pc' := 40) rfl rfl ?_
  have f7 := (P10.other W4 (Ne.symm ne_x1_x2))
  refine Go.iastore X6 hx hZ e6 f7 (k := k1) hk hbd (hb hby d3_40) (pc' := 41) rfl ?_
  intro T8 h8 X8 e8 W8 V8
  refine g_aloadN X8 hx hby d3_41 (pc' := 42) rfl rfl rfl ?_
  have f9 := ((P7.other W4 (Or.inl (Ne.symm ne_x1_a1))).other W8 (Or.inl (Ne.symm ne_x2_a1)))
  refine g_getf X8 hx hby hZ hown (host := "") (Or.inl (wi hw 22 rfl)) Via.refl e8 f9 d3_42 (pc' := 45) rfl ?_
  intro T10 X10 e10
  refine g_iload X10 hx hby d3_45 (pc' := 47) rfl rfl ?_
  refine g_dloadN X10 hx hby d3_47 (pc' := 48) rfl rfl ?_
  have f11 := ((P11.other W4 (Ne.symm ne_x1_x5)).other W8 (Ne.symm ne_x2_x5))
  refine Go.dastore X10 hx hZ e10 f11 (k := k1) hk hbd (hb hby d3_48) (pc' := 49) rfl ?_
  intro T12 h12 X12 e12 W12 V12
  refine g_aloadN X12 hx hby d3_49 (pc' := 50) rfl rfl rfl ?_
  have f13 := (((P1.other W4 (Or.inl (Ne.symm ne_x1_a1))).other W8 (Or.inl (Ne.symm ne_x2_a1))).other W12 (Or.inl (Ne.symm ne_x5_a1)))
  refine g_getf X12 hx hby hZ hown (host := "") (Or.inl (wi hw 28 rfl)) Via.refl e12 f13 d3_50 (pc' := 53) rfl ?_
  intro T14 X14 e14
  have hc53 : ¬ ((1 : Int) = (0 : Int)) := by decide
  refine g_ifNo X14 hx hby d3_53 (pc' := 56) (feq (show ¬ ((1 : Int32) = (0 : Int32)) from fun q => hc53 (congrArg Int32.toInt q))).1 rfl ?_
  refine g_aloadN X14 hx hby d3_56 (pc' := 57) rfl rfl rfl ?_
  have f15 := (((P8.other W4 (Or.inl (Ne.symm ne_x1_a1))).other W8 (Or.inl (Ne.symm ne_x2_a1))).other W12 (Or.inl (Ne.symm ne_x5_a1)))
  refine g_getf X14 hx hby hZ hown (host := "") (Or.inl (wi hw 24 rfl)) Via.refl e14 f15 d3_57 (pc' := 60) rfl ?_
  intro T16 X16 e16
  refine g_iload X16 hx hby d3_60 (pc' := 62) rfl rfl ?_
  refine g_iload X16 hx hby d3_62 (pc' := 64) rfl rfl ?_
  have f17 := (((P12.other W4 (Ne.symm ne_x1_x6)).other W8 (Ne.symm ne_x2_x6)).other W12 (Ne.symm ne_x5_x6))
  refine Go.iastore X16 hx hZ e16 f17 (k := k1) hk hbd (hb hby d3_64) (pc' := 65) rfl ?_
  intro T18 h18 X18 e18 W18 V18
  have z19 : n0 ≤ h18.size := (Nat.le_trans (Nat.le_trans (Nat.le_trans (Nat.le_trans Z0 (Nat.le_of_eq (Wr.size W4).symm)) (Nat.le_of_eq (Wr.size W8).symm)) (Nat.le_of_eq (Wr.size W12).symm)) (Nat.le_of_eq (Wr.size W18).symm))
  have K20 : Keep h0 h18 [a1, x1, x2, x5, x6] := ((((K0.wr W4 (Or.inl (List.mem_of_getElem? (i := 1) rfl))).wr W8 (Or.inl (List.mem_of_getElem? (i := 2) rfl))).wr W12 (Or.inl (List.mem_of_getElem? (i := 3) rfl))).wr W18 (Or.inl (List.mem_of_getElem? (i := 4) rfl)))
  refine g_aloadN X18 hx hby d3_65 (pc' := 66) rfl rfl rfl ?_
  refine g_iload X18 hx hby d3_66 (pc' := 68) rfl rfl ?_
  refine g_iconst X18 hx hby d3_68 (pc' := 69) rfl (z := (1 : Int32)) rfl ?_
  refine g_iadd X18 hx hby d3_69 (pc' := 70) rfl rfl ?_
  have f21 := ((((P13.other W4 (Or.inl (Ne.symm ne_x1_a1))).other W8 (Or.inl (Ne.symm ne_x2_a1))).other W12 (Or.inl (Ne.symm ne_x5_a1))).other W18 (Or.inl (Ne.symm ne_x6_a1)))
  have f22 := ((((P0.wr W4).wr W8).wr W12).wr W18)
  refine g_putf X18 hx hby hZ hown (host := "") (Or.inl (wi hw 35 rfl)) Via.refl e18 f21 f22 (Or.inl (wi hw 36 rfl)) (wi hw 5 rfl) (ty := .int) (by decide) rfl rfl d3_70 (pc' := 73) rfl ?_
  intro T23 h23 X23 e23 W23 F23
  refine g_aloadN X23 hx hby d3_73 (pc' := 74) rfl rfl rfl ?_
  refine g_dup X23 hx hby d3_74 (pc' := 75) rfl rfl ?_
  have f24 := (((((P14.other W4 (Or.inl (Ne.symm ne_x1_a1))).other W8 (Or.inl (Ne.symm ne_x2_a1))).other W12 (Or.inl (Ne.symm ne_x5_a1))).other W18 (Or.inl (Ne.symm ne_x6_a1))).other W23 (Or.inr (sn80 hw)))
  refine g_getf X23 hx hby hZ hown (host := "") (Or.inl (wi hw 70 rfl)) Via.refl e23 f24 d3_75 (pc' := 78) rfl ?_
  intro T25 X25 e25
  refine g_iconst X25 hx hby d3_78 (pc' := 79) rfl (z := (1 : Int32)) rfl ?_
  refine g_iadd X25 hx hby d3_79 (pc' := 80) rfl rfl ?_
  have f26 := f22.wr W23
  refine g_putf X25 hx hby hZ hown (host := "") (Or.inl (wi hw 70 rfl)) Via.refl e25 f24 f26 (Or.inl (wi hw 71 rfl)) (wi hw 5 rfl) (ty := .int) (by decide) rfl rfl d3_80 (pc' := 83) rfl ?_
  intro T27 h27 X27 e27 W27 F27
  refine g_aloadN X27 hx hby d3_83 (pc' := 84) rfl rfl rfl ?_
  refine g_dup X27 hx hby d3_84 (pc' := 85) rfl rfl ?_
  have f28 := ((((((P15.other W4 (Or.inl (Ne.symm ne_x1_a1))).other W8 (Or.inl (Ne.symm ne_x2_a1))).other W12 (Or.inl (Ne.symm ne_x5_a1))).other W18 (Or.inl (Ne.symm ne_x6_a1))).other W23 (Or.inr (sn81 hw))).other W27 (Or.inr (sn82 hw)))
  refine g_getf X27 hx hby hZ hown (host := "") (Or.inl (wi hw 72 rfl)) Via.refl e27 f28 d3_85 (pc' := 88) rfl ?_
  intro T29 X29 e29
  refine Go.of (fun _ k => XS.lconst X29.here hx rfl (hb hby d3_88) k) ?_
  show Go p.tables e below s _ _ _ (T29.setTop (mkF m 89 #[.val (.ref a1), .val (.int i1), .val (.int i2), .val (.double d1), .second, .val (.int i3), .val (.int t1)] [(.long (1 : Int64)), (.long u1), (.ref a1)]))
  refine g_ladd X29 hx hby d3_89 (pc' := 90) rfl rfl ?_
  have f30 := f26.wr W27
  refine g_putf X29 hx hby hZ hown (host := "") (Or.inl (wi hw 72 rfl)) Via.refl e29 f28 f30 (Or.inl (wi hw 73 rfl)) (wi hw 5 rfl) (ty := .long) (by decide) rfl rfl d3_90 (pc' := 93) rfl ?_
  intro T31 h31 X31 e31 W31 F31
  have N31 := (Fr.snoc X31 (Fr.snoc X27 (Fr.snoc X23 (Fr.snoc X18 (Fr.snoc X12 (Fr.snoc X8 (Fr.snoc X4 N0 ge_x1) ge_x2) ge_x5) ge_x6) ge_a1) ge_a1) ge_a1)
  refine g_iload X31 hx hby d3_93 (pc' := 95) rfl rfl ?_
  refine Go.retI X31 hx hlk hret (hb hby d3_95) (by decide) (by decide) ?_
  rw [e31]
  have f32 := ((((f13.other W18 (Or.inl (Ne.symm ne_x6_a1))).other W23 (Or.inr (sn98 hw))).other W27 (Or.inr (sn99 hw))).other W31 (Or.inr (sn100 hw)))
  have f33 := (((((((P2.other W4 (Or.inl (Ne.symm ne_x1_a1))).other W8 (Or.inl (Ne.symm ne_x2_a1))).other W12 (Or.inl (Ne.symm ne_x5_a1))).other W18 (Or.inl (Ne.symm ne_x6_a1))).other W23 (Or.inr (sn101 hw))).other W27 (Or.inr (sn102 hw))).other W31 (Or.inr (sn103 hw)))
  have f34 := (((((((P3.other W4 (Or.inl (Ne.symm ne_x1_a1))).other W8 (Or.inl (Ne.symm ne_x2_a1))).other W12 (Or.inl (Ne.symm ne_x5_a1))).other W18 (Or.inl (Ne.symm ne_x6_a1))).other W23 (Or.inr (sn83 hw))).other W27 (Or.inr (sn84 hw))).other W31 (Or.inr (sn85 hw)))
  have f35 := ((((((f5.other W8 (Or.inl (Ne.symm ne_x2_a1))).other W12 (Or.inl (Ne.symm ne_x5_a1))).other W18 (Or.inl (Ne.symm ne_x6_a1))).other W23 (Or.inr (sn86 hw))).other W27 (Or.inr (sn87 hw))).other W31 (Or.inr (sn88 hw)))
  have f36 := (((((((P5.other W4 (Or.inl (Ne.symm ne_x1_a1))).other W8 (Or.inl (Ne.symm ne_x2_a1))).other W12 (Or.inl (Ne.symm ne_x5_a1))).other W18 (Or.inl (Ne.symm ne_x6_a1))).other W23 (Or.inr (sn89 hw))).other W27 (Or.inr (sn90 hw))).other W31 (Or.inr (sn91 hw)))
  have f37 := (((((((P6.other W4 (Or.inl (Ne.symm ne_x1_a1))).other W8 (Or.inl (Ne.symm ne_x2_a1))).other W12 (Or.inl (Ne.symm ne_x5_a1))).other W18 (Or.inl (Ne.symm ne_x6_a1))).other W23 (Or.inr (sn92 hw))).other W27 (Or.inr (sn93 hw))).other W31 (Or.inr (sn94 hw)))
  have f38 := (((((f9.other W12 (Or.inl (Ne.symm ne_x5_a1))).other W18 (Or.inl (Ne.symm ne_x6_a1))).other W23 (Or.inr (sn95 hw))).other W27 (Or.inr (sn96 hw))).other W31 (Or.inr (sn97 hw)))
  have f39 := ((((f15.other W18 (Or.inl (Ne.symm ne_x6_a1))).other W23 (Or.inr (sn104 hw))).other W27 (Or.inr (sn105 hw))).other W31 (Or.inr (sn106 hw)))
  have f40 := ((F23.other W27 (Or.inr (sn107 hw))).other W31 (Or.inr (sn108 hw)))
  have f41 := (F27.other W31 (Or.inr (sn109 hw)))
  have f42 := ((((((V4.other W8 ne_x1_x2).other W12 ne_x1_x5).other W18 ne_x1_x6).other W23 ne_x1_a1).other W27 ne_x1_a1).other W31 ne_x1_a1)
  have f43 := (((((V8.other W12 ne_x2_x5).other W18 ne_x2_x6).other W23 ne_x2_a1).other W27 ne_x2_a1).other W31 ne_x2_a1)
  have f44 := ((((V12.other W18 ne_x5_x6).other W23 ne_x5_a1).other W27 ne_x5_a1).other W31 ne_x5_a1)
  have f45 := (((V18.other W23 ne_x6_a1).other W27 ne_x6_a1).other W31 ne_x6_a1)
  exact ⟨rfl, N31, (((K20.wr W23 (Or.inl (List.mem_of_getElem? (i := 0) rfl))).wr W27 (Or.inl (List.mem_of_getElem? (i := 0) rfl))).wr W31 (Or.inl (List.mem_of_getElem? (i := 0) rfl))), f32, f33, f34, f35, f36, f37, f38, f39, f40, f41, F31, f42, f43, f44, f45⟩
theorem d14_0 : decode prog_12_method_3_code 0 = .ok (.aload_n 0, 1) := by decide +kernel
theorem d14_1 : decode prog_12_method_3_code 1 = .ok (.getfield 7, 3) := by decide +kernel
theorem d14_4 : decode prog_12_method_3_code 4 = .ok (.iload_n 1, 1) := by decide +kernel
theorem d14_5 : decode prog_12_method_3_code 5 = .ok (.iconst (-1), 1) := by decide +kernel
theorem d14_6 : decode prog_12_method_3_code 6 = .ok (.iastore, 1) := by decide +kernel
theorem d14_7 : decode prog_12_method_3_code 7 = .ok (.aload_n 0, 1) := by decide +kernel
theorem d14_8 : decode prog_12_method_3_code 8 = .ok (.getfield 13, 3) := by decide +kernel
theorem d14_11 : decode prog_12_method_3_code 11 = .ok (.iload_n 1, 1) := by decide +kernel
theorem d14_12 : decode prog_12_method_3_code 12 = .ok (.iconst (-1), 1) := by decide +kernel
theorem d14_13 : decode prog_12_method_3_code 13 = .ok (.iastore, 1) := by decide +kernel
theorem d14_14 : decode prog_12_method_3_code 14 = .ok (.aload_n 0, 1) := by decide +kernel
theorem d14_15 : decode prog_12_method_3_code 15 = .ok (.dup, 1) := by decide +kernel
theorem d14_16 : decode prog_12_method_3_code 16 = .ok (.getfield 51, 3) := by decide +kernel
theorem d14_19 : decode prog_12_method_3_code 19 = .ok (.iconst 1, 1) := by decide +kernel
theorem d14_20 : decode prog_12_method_3_code 20 = .ok (.isub, 1) := by decide +kernel
theorem d14_21 : decode prog_12_method_3_code 21 = .ok (.putfield 51, 3) := by decide +kernel
theorem d14_24 : decode prog_12_method_3_code 24 = .ok (.return_, 1) := by decide +kernel
theorem ef_rm_remove4 (m : MethodId) (x0 : Addr) (x1 : Int32) : entryFrame m #[(.ref x0), (.int x1)] 2 = mkF m 0 #[.val (.ref x0), .val (.int x1)] [] := by first | (simp [entryFrame, mkF, argsToLocals, Value.category]; done) | rfl
abbrev Q_rm_remove4 (Z : State) (a1 : Addr) (i1 : Int32) (x1 : Addr) (x2 : Addr) (g1 : Nat → Int32) (g2 : Nat → Int32) (t1 : Int32) (t2 : Int32) (k1 : Nat) (kd : Int32) (x3 : Addr) (x4 : Addr) (x5 : Addr) (x6 : Addr) (x7 : Addr) (u1 : Int64) (h0 : Heap) (n0 : Nat) : Option Value → Heap → List Loc → Prop := fun v h L => v = none ∧ Fr n0 L ∧ Keep h0 h [a1, x1, x2] ∧ Fld Z h a1 kES "sources" "[I" (.ref x1) ∧ Fld Z h a1 kES "targets" "[I" (.ref x2) ∧ ArF Z h x1 .int 4 (fun i => .int ((upI g1 k1 (-1 : Int32)) i)) ∧ ArF Z h x2 .int 4 (fun i => .int ((upI g2 k1 (-1 : Int32)) i)) ∧ Fld Z h a1 kES "bound" "I" (.int t1) ∧ Fld Z h a1 kES "count" "I" (.int (t2 - (1 : Int32))) ∧ Fld Z h a1 kES "keyed" "Z" (.int kd) ∧ Fld Z h a1 kES "sourcePositions" "[I" (.ref x3) ∧ Fld Z h a1 kES "targetPositions" "[I" (.ref x4) ∧ Fld Z h a1 kES "weights" "[D" (.ref x5) ∧ Fld Z h a1 kES "keys" "[I" (.ref x6) ∧ Fld Z h a1 kES "keptNumbers" "[J" (.ref x7) ∧ Fld Z h a1 kES "nextNumber" "J" (.long u1)
set_option maxRecDepth 65536 in
set_option maxHeartbeats 40000000 in
theorem rm_remove4 (l : Launch) (Z : State) (a0 : Array Value) (hw : ∀ d ∈ tables_1, d.before a0 Z = true) (a1 : Addr) (i1 : Int32) (x1 : Addr) (x2 : Addr) (g1 : Nat → Int32) (g2 : Nat → Int32) (t1 : Int32) (t2 : Int32) (k1 : Nat) (kd : Int32) (x3 : Addr) (x4 : Addr) (x5 : Addr) (x6 : Addr) (x7 : Addr) (u1 : Int64) (h0 : Heap) (n0 : Nat) (Z0 : n0 ≤ h0.size) (P0 : Exa Z h0 a1 kES) (P1 : Fld Z h0 a1 kES "sources" "[I" (.ref x1)) (P2 : Fld Z h0 a1 kES "targets" "[I" (.ref x2)) (P3 : ArF Z h0 x1 .int 4 (fun i => .int (g1 i))) (P4 : ArF Z h0 x2 .int 4 (fun i => .int (g2 i))) (P5 : Fld Z h0 a1 kES "bound" "I" (.int t1)) (P6 : Fld Z h0 a1 kES "count" "I" (.int t2)) (P7 : Fld Z h0 a1 kES "keyed" "Z" (.int kd)) (P8 : Fld Z h0 a1 kES "sourcePositions" "[I" (.ref x3)) (P9 : Fld Z h0 a1 kES "targetPositions" "[I" (.ref x4)) (P10 : Fld Z h0 a1 kES "weights" "[D" (.ref x5)) (P11 : Fld Z h0 a1 kES "keys" "[I" (.ref x6)) (P12 : Fld Z h0 a1 kES "keptNumbers" "[J" (.ref x7)) (P13 : Fld Z h0 a1 kES "nextNumber" "J" (.long u1)) (ne_x1_a1 : x1 ≠ a1) (ne_x2_a1 : x2 ≠ a1) (ne_x1_x2 : x1 ≠ x2) (ge_a1 : n0 ≤ a1) (ge_x1 : n0 ≤ x1) (ge_x2 : n0 ≤ x2) (hk : i1.toInt = (k1 : Int)) (hbd : k1 < 4) :
    Con l Z (⟨"com/example/edgewise/edgewise/EdgeSlots", "remove", "(I)V"⟩ : MethodName) prog_12_method_3_code 2 none ({ frames := 0, cells := 0, slots := 0, locals := 0 } : Room) #[(.ref a1), (.int i1)] h0 (Q_rm_remove4 Z a1 i1 x1 x2 g1 g2 t1 t2 k1 kd x3 x4 x5 x6 x7 u1 h0 n0) := by
  refine meet (y := (⟨"com/example/edgewise/edgewise/EdgeSlots", "remove", "(I)V"⟩ : MethodName)) (Q := Q_rm_remove4 Z a1 i1 x1 x2 g1 g2 t1 t2 k1 kd x3 x4 x5 x6 x7 u1 h0 n0) (plainFor_of_name pn_com_example_edgewise_edgewise_EdgeSlots) (fun m => ef_rm_remove4 m a1 i1) ?_
  intro p e s m below meth c T0 hx hby hml hZ hown hnm hret hlk X0 e0
  have N0 := Fr.nil n0
  have K0 := Keep.refl h0 [a1, x1, x2]
  refine g_aloadN X0 hx hby d14_0 (pc' := 1) rfl rfl rfl ?_
  refine g_getf X0 hx hby hZ hown (host := "") (Or.inl (wi hw 13 rfl)) Via.refl e0 P1 d14_1 (pc' := 4) rfl ?_
  intro T1 X1 e1
  refine g_iloadN X1 hx hby d14_4 (pc' := 5) rfl rfl ?_
  refine g_iconst X1 hx hby d14_5 (pc' := 6) rfl (z := (-1 : Int32)) rfl ?_
  refine Go.iastore X1 hx hZ e1 P3 (k := k1) hk hbd (hb hby d14_6) (pc' := 7) rfl ?_
  intro T2 h2 X2 e2 W2 V2
  refine g_aloadN X2 hx hby d14_7 (pc' := 8) rfl rfl rfl ?_
  have f3 := (P2.other W2 (Or.inl (Ne.symm ne_x1_a1)))
  refine g_getf X2 hx hby hZ hown (host := "") (Or.inl (wi hw 15 rfl)) Via.refl e2 f3 d14_8 (pc' := 11) rfl ?_
  intro T4 X4 e4
  refine g_iloadN X4 hx hby d14_11 (pc' := 12) rfl rfl ?_
  refine g_iconst X4 hx hby d14_12 (pc' := 13) rfl (z := (-1 : Int32)) rfl ?_
  have f5 := (P4.other W2 (Ne.symm ne_x1_x2))
  refine Go.iastore X4 hx hZ e4 f5 (k := k1) hk hbd (hb hby d14_13) (pc' := 14) rfl ?_
  intro T6 h6 X6 e6 W6 V6
  refine g_aloadN X6 hx hby d14_14 (pc' := 15) rfl rfl rfl ?_
  refine g_dup X6 hx hby d14_15 (pc' := 16) rfl rfl ?_
  have f7 := ((P6.other W2 (Or.inl (Ne.symm ne_x1_a1))).other W6 (Or.inl (Ne.symm ne_x2_a1)))
  refine g_getf X6 hx hby hZ hown (host := "") (Or.inl (wi hw 70 rfl)) Via.refl e6 f7 d14_16 (pc' := 19) rfl ?_
  intro T8 X8 e8
  refine g_iconst X8 hx hby d14_19 (pc' := 20) rfl (z := (1 : Int32)) rfl ?_
  refine g_isub X8 hx hby d14_20 (pc' := 21) rfl rfl ?_
  have f9 := ((P0.wr W2).wr W6)
  refine g_putf X8 hx hby hZ hown (host := "") (Or.inl (wi hw 70 rfl)) Via.refl e8 f7 f9 (Or.inl (wi hw 71 rfl)) (wi hw 5 rfl) (ty := .int) (by decide) rfl rfl d14_21 (pc' := 24) rfl ?_
  intro T10 h10 X10 e10 W10 F10
  refine Go.retV X10 hx hlk hret (hb hby d14_24) rfl (by decide) (by decide) ?_
  rw [e10]
  have f11 := (((P1.other W2 (Or.inl (Ne.symm ne_x1_a1))).other W6 (Or.inl (Ne.symm ne_x2_a1))).other W10 (Or.inr (sn84 hw)))
  have f12 := ((f3.other W6 (Or.inl (Ne.symm ne_x2_a1))).other W10 (Or.inr (sn87 hw)))
  have f13 := ((V2.other W6 ne_x1_x2).other W10 ne_x1_a1)
  have f14 := V6.other W10 ne_x2_a1
  have f15 := (((P5.other W2 (Or.inl (Ne.symm ne_x1_a1))).other W6 (Or.inl (Ne.symm ne_x2_a1))).other W10 (Or.inr (sn107 hw)))
  have f16 := (((P7.other W2 (Or.inl (Ne.symm ne_x1_a1))).other W6 (Or.inl (Ne.symm ne_x2_a1))).other W10 (Or.inr (sn99 hw)))
  have f17 := (((P8.other W2 (Or.inl (Ne.symm ne_x1_a1))).other W6 (Or.inl (Ne.symm ne_x2_a1))).other W10 (Or.inr (sn90 hw)))
  have f18 := (((P9.other W2 (Or.inl (Ne.symm ne_x1_a1))).other W6 (Or.inl (Ne.symm ne_x2_a1))).other W10 (Or.inr (sn93 hw)))
  have f19 := (((P10.other W2 (Or.inl (Ne.symm ne_x1_a1))).other W6 (Or.inl (Ne.symm ne_x2_a1))).other W10 (Or.inr (sn96 hw)))
  have f20 := (((P11.other W2 (Or.inl (Ne.symm ne_x1_a1))).other W6 (Or.inl (Ne.symm ne_x2_a1))).other W10 (Or.inr (sn105 hw)))
  have f21 := (((P12.other W2 (Or.inl (Ne.symm ne_x1_a1))).other W6 (Or.inl (Ne.symm ne_x2_a1))).other W10 (Or.inr (sn102 hw)))
  have f22 := (((P13.other W2 (Or.inl (Ne.symm ne_x1_a1))).other W6 (Or.inl (Ne.symm ne_x2_a1))).other W10 (Or.inr (sn82 hw)))
  exact ⟨rfl, (Fr.snoc X10 (Fr.snoc X6 (Fr.snoc X2 N0 ge_x1) ge_x2) ge_a1), (((K0.wr W2 (Or.inl (List.mem_of_getElem? (i := 1) rfl))).wr W6 (Or.inl (List.mem_of_getElem? (i := 2) rfl))).wr W10 (Or.inl (List.mem_of_getElem? (i := 0) rfl))), f11, f12, f13, f14, f15, F10, f16, f17, f18, f19, f20, f21, f22⟩
theorem ef_rm_remove4s (m : MethodId) (x0 : Addr) (x1 : Int32) : entryFrame m #[(.ref x0), (.int x1)] 2 = mkF m 0 #[.val (.ref x0), .val (.int x1)] [] := by first | (simp [entryFrame, mkF, argsToLocals, Value.category]; done) | rfl
abbrev Q_rm_remove4s (Z : State) (a1 : Addr) (i1 : Int32) (x1 : Addr) (x2 : Addr) (g1 : Nat → Int32) (g2 : Nat → Int32) (t1 : Int32) (t2 : Int32) (k1 : Nat) (x7 : Addr) (u1 : Int64) (h0 : Heap) (n0 : Nat) : Option Value → Heap → List Loc → Prop := fun v h L => v = none ∧ Fr n0 L ∧ Keep h0 h [a1, x1, x2] ∧ Fld Z h a1 kES "sources" "[I" (.ref x1) ∧ Fld Z h a1 kES "targets" "[I" (.ref x2) ∧ ArF Z h x1 .int 4 (fun i => .int ((upI g1 k1 (-1 : Int32)) i)) ∧ ArF Z h x2 .int 4 (fun i => .int ((upI g2 k1 (-1 : Int32)) i)) ∧ Fld Z h a1 kES "bound" "I" (.int t1) ∧ Fld Z h a1 kES "count" "I" (.int (t2 - (1 : Int32))) ∧ Fld Z h a1 kES "keptNumbers" "[J" (.ref x7) ∧ Fld Z h a1 kES "nextNumber" "J" (.long u1)
set_option maxRecDepth 65536 in
set_option maxHeartbeats 40000000 in
theorem rm_remove4s (l : Launch) (Z : State) (a0 : Array Value) (hw : ∀ d ∈ tables_1, d.before a0 Z = true) (a1 : Addr) (i1 : Int32) (x1 : Addr) (x2 : Addr) (g1 : Nat → Int32) (g2 : Nat → Int32) (t1 : Int32) (t2 : Int32) (k1 : Nat) (x7 : Addr) (u1 : Int64) (h0 : Heap) (n0 : Nat) (Z0 : n0 ≤ h0.size) (P0 : Exa Z h0 a1 kES) (P1 : Fld Z h0 a1 kES "sources" "[I" (.ref x1)) (P2 : Fld Z h0 a1 kES "targets" "[I" (.ref x2)) (P3 : ArF Z h0 x1 .int 4 (fun i => .int (g1 i))) (P4 : ArF Z h0 x2 .int 4 (fun i => .int (g2 i))) (P5 : Fld Z h0 a1 kES "bound" "I" (.int t1)) (P6 : Fld Z h0 a1 kES "count" "I" (.int t2)) (P7 : Fld Z h0 a1 kES "keptNumbers" "[J" (.ref x7)) (P8 : Fld Z h0 a1 kES "nextNumber" "J" (.long u1)) (ne_x1_a1 : x1 ≠ a1) (ne_x2_a1 : x2 ≠ a1) (ne_x1_x2 : x1 ≠ x2) (ge_a1 : n0 ≤ a1) (ge_x1 : n0 ≤ x1) (ge_x2 : n0 ≤ x2) (hk : i1.toInt = (k1 : Int)) (hbd : k1 < 4) :
    Con l Z (⟨"com/example/edgewise/edgewise/EdgeSlots", "remove", "(I)V"⟩ : MethodName) prog_12_method_3_code 2 none ({ frames := 0, cells := 0, slots := 0, locals := 0 } : Room) #[(.ref a1), (.int i1)] h0 (Q_rm_remove4s Z a1 i1 x1 x2 g1 g2 t1 t2 k1 x7 u1 h0 n0) := by
  refine meet (y := (⟨"com/example/edgewise/edgewise/EdgeSlots", "remove", "(I)V"⟩ : MethodName)) (Q := Q_rm_remove4s Z a1 i1 x1 x2 g1 g2 t1 t2 k1 x7 u1 h0 n0) (plainFor_of_name pn_com_example_edgewise_edgewise_EdgeSlots) (fun m => ef_rm_remove4s m a1 i1) ?_
  intro p e s m below meth c T0 hx hby hml hZ hown hnm hret hlk X0 e0
  have N0 := Fr.nil n0
  have K0 := Keep.refl h0 [a1, x1, x2]
  refine g_aloadN X0 hx hby d14_0 (pc' := 1) rfl rfl rfl ?_
  refine g_getf X0 hx hby hZ hown (host := "") (Or.inl (wi hw 13 rfl)) Via.refl e0 P1 d14_1 (pc' := 4) rfl ?_
  intro T1 X1 e1
  refine g_iloadN X1 hx hby d14_4 (pc' := 5) rfl rfl ?_
  refine g_iconst X1 hx hby d14_5 (pc' := 6) rfl (z := (-1 : Int32)) rfl ?_
  refine Go.iastore X1 hx hZ e1 P3 (k := k1) hk hbd (hb hby d14_6) (pc' := 7) rfl ?_
  intro T2 h2 X2 e2 W2 V2
  refine g_aloadN X2 hx hby d14_7 (pc' := 8) rfl rfl rfl ?_
  have f3 := (P2.other W2 (Or.inl (Ne.symm ne_x1_a1)))
  refine g_getf X2 hx hby hZ hown (host := "") (Or.inl (wi hw 15 rfl)) Via.refl e2 f3 d14_8 (pc' := 11) rfl ?_
  intro T4 X4 e4
  refine g_iloadN X4 hx hby d14_11 (pc' := 12) rfl rfl ?_
  refine g_iconst X4 hx hby d14_12 (pc' := 13) rfl (z := (-1 : Int32)) rfl ?_
  have f5 := (P4.other W2 (Ne.symm ne_x1_x2))
  refine Go.iastore X4 hx hZ e4 f5 (k := k1) hk hbd (hb hby d14_13) (pc' := 14) rfl ?_
  intro T6 h6 X6 e6 W6 V6
  refine g_aloadN X6 hx hby d14_14 (pc' := 15) rfl rfl rfl ?_
  refine g_dup X6 hx hby d14_15 (pc' := 16) rfl rfl ?_
  have f7 := ((P6.other W2 (Or.inl (Ne.symm ne_x1_a1))).other W6 (Or.inl (Ne.symm ne_x2_a1)))
  refine g_getf X6 hx hby hZ hown (host := "") (Or.inl (wi hw 70 rfl)) Via.refl e6 f7 d14_16 (pc' := 19) rfl ?_
  intro T8 X8 e8
  refine g_iconst X8 hx hby d14_19 (pc' := 20) rfl (z := (1 : Int32)) rfl ?_
  refine g_isub X8 hx hby d14_20 (pc' := 21) rfl rfl ?_
  have f9 := ((P0.wr W2).wr W6)
  refine g_putf X8 hx hby hZ hown (host := "") (Or.inl (wi hw 70 rfl)) Via.refl e8 f7 f9 (Or.inl (wi hw 71 rfl)) (wi hw 5 rfl) (ty := .int) (by decide) rfl rfl d14_21 (pc' := 24) rfl ?_
  intro T10 h10 X10 e10 W10 F10
  refine Go.retV X10 hx hlk hret (hb hby d14_24) rfl (by decide) (by decide) ?_
  rw [e10]
  have f11 := (((P1.other W2 (Or.inl (Ne.symm ne_x1_a1))).other W6 (Or.inl (Ne.symm ne_x2_a1))).other W10 (Or.inr (sn84 hw)))
  have f12 := ((f3.other W6 (Or.inl (Ne.symm ne_x2_a1))).other W10 (Or.inr (sn87 hw)))
  have f13 := ((V2.other W6 ne_x1_x2).other W10 ne_x1_a1)
  have f14 := V6.other W10 ne_x2_a1
  have f15 := (((P5.other W2 (Or.inl (Ne.symm ne_x1_a1))).other W6 (Or.inl (Ne.symm ne_x2_a1))).other W10 (Or.inr (sn107 hw)))
  have f16 := (((P7.other W2 (Or.inl (Ne.symm ne_x1_a1))).other W6 (Or.inl (Ne.symm ne_x2_a1))).other W10 (Or.inr (sn102 hw)))
  have f17 := (((P8.other W2 (Or.inl (Ne.symm ne_x1_a1))).other W6 (Or.inl (Ne.symm ne_x2_a1))).other W10 (Or.inr (sn82 hw)))
  exact ⟨rfl, (Fr.snoc X10 (Fr.snoc X6 (Fr.snoc X2 N0 ge_x1) ge_x2) ge_a1), (((K0.wr W2 (Or.inl (List.mem_of_getElem? (i := 1) rfl))).wr W6 (Or.inl (List.mem_of_getElem? (i := 2) rfl))).wr W10 (Or.inl (List.mem_of_getElem? (i := 0) rfl))), f11, f12, f13, f14, f15, F10, f16, f17⟩
theorem d12_0 : decode prog_6_method_3_code 0 = .ok (.iload_n 0, 1) := by decide +kernel
theorem d12_1 : decode prog_6_method_3_code 1 = .ok (.iconst 4, 1) := by decide +kernel
theorem d12_2 : decode prog_6_method_3_code 2 = .ok (.if_icmp .le 14, 3) := by decide +kernel
theorem d12_16 : decode prog_6_method_3_code 16 = .ok (.iload_n 0, 1) := by decide +kernel
theorem d12_17 : decode prog_6_method_3_code 17 = .ok (.ireturn, 1) := by decide +kernel
theorem ef_rm_trim (m : MethodId) (x1 : Int32) : entryFrame m #[(.int (4 : Int32)), (.int x1)] 2 = mkF m 0 #[.val (.int (4 : Int32)), .val (.int x1)] [] := by first | (simp [entryFrame, mkF, argsToLocals, Value.category]; done) | rfl
abbrev Q_rm_trim (Z : State) (i2 : Int32) (h0 : Heap) (n0 : Nat) : Option Value → Heap → List Loc → Prop := fun v h L => v = some (.int (4 : Int32)) ∧ Fr n0 L ∧ h = h0
set_option maxRecDepth 65536 in
set_option maxHeartbeats 40000000 in
theorem rm_trim (l : Launch) (Z : State) (a0 : Array Value) (hw : ∀ d ∈ tables_1, d.before a0 Z = true) (i2 : Int32) (h0 : Heap) (n0 : Nat) (Z0 : n0 ≤ h0.size)  :
    Con l Z (⟨"com/example/edgewise/edgewise/Capacity", "trimmed", "(II)I"⟩ : MethodName) prog_6_method_3_code 2 (some .int) ({ frames := 0, cells := 0, slots := 0, locals := 0 } : Room) #[(.int (4 : Int32)), (.int i2)] h0 (Q_rm_trim Z i2 h0 n0) := by
  refine meet (y := (⟨"com/example/edgewise/edgewise/Capacity", "trimmed", "(II)I"⟩ : MethodName)) (Q := Q_rm_trim Z i2 h0 n0) (plainFor_of_name pn_com_example_edgewise_edgewise_Capacity) (fun m => ef_rm_trim m i2) ?_
  intro p e s m below meth c T0 hx hby hml hZ hown hnm hret hlk X0 e0
  have N0 := Fr.nil n0
  refine g_iloadN X0 hx hby d12_0 (pc' := 1) rfl rfl ?_
  refine g_iconst X0 hx hby d12_1 (pc' := 2) rfl (z := (4 : Int32)) rfl ?_
  have hc2 : ¬ ((4 : Int) < (4 : Int)) := by decide
  refine g_icmpYes X0 hx hby d12_2 (pc' := 16) (flt (show ¬ ((4 : Int32) < (4 : Int32)) from fun q => hc2 (Int32.lt_iff_toInt_lt.mp q))).2.2.2 (by decide) (by decide) ?_
  refine g_iloadN X0 hx hby d12_16 (pc' := 17) rfl rfl ?_
  refine Go.retI X0 hx hlk hret (hb hby d12_17) (by decide) (by decide) ?_
  exact ⟨rfl, N0, e0⟩
theorem d15_0 : decode jdk_29_method_65_code 0 = .ok (.iload_n 0, 1) := by decide +kernel
theorem d15_1 : decode jdk_29_method_65_code 1 = .ok (.iload_n 1, 1) := by decide +kernel
theorem d15_2 : decode jdk_29_method_65_code 2 = .ok (.if_icmp .lt 7, 3) := by decide +kernel
theorem d15_5 : decode jdk_29_method_65_code 5 = .ok (.iload_n 0, 1) := by decide +kernel
theorem d15_6 : decode jdk_29_method_65_code 6 = .ok (.goto 4, 3) := by decide +kernel
theorem d15_10 : decode jdk_29_method_65_code 10 = .ok (.ireturn, 1) := by decide +kernel
theorem ef_rm_maxI (m : MethodId) (x0 : Int32) (x1 : Int32) : entryFrame m #[(.int x0), (.int x1)] 2 = mkF m 0 #[.val (.int x0), .val (.int x1)] [] := by first | (simp [entryFrame, mkF, argsToLocals, Value.category]; done) | rfl
abbrev Q_rm_maxI (Z : State) (i1 : Int32) (i2 : Int32) (h0 : Heap) (n0 : Nat) : Option Value → Heap → List Loc → Prop := fun v h L => v = some (.int i1) ∧ Fr n0 L ∧ h = h0
set_option maxRecDepth 65536 in
set_option maxHeartbeats 40000000 in
theorem rm_maxI (l : Launch) (Z : State) (a0 : Array Value) (hw : ∀ d ∈ tables_1, d.before a0 Z = true) (i1 : Int32) (i2 : Int32) (h0 : Heap) (n0 : Nat) (Z0 : n0 ≤ h0.size) (y1 : i2.toInt ≤ i1.toInt) :
    Con l Z (⟨"java/lang/Math", "max", "(II)I"⟩ : MethodName) jdk_29_method_65_code 2 (some .int) ({ frames := 0, cells := 0, slots := 0, locals := 0 } : Room) #[(.int i1), (.int i2)] h0 (Q_rm_maxI Z i1 i2 h0 n0) := by
  refine meet (y := (⟨"java/lang/Math", "max", "(II)I"⟩ : MethodName)) (Q := Q_rm_maxI Z i1 i2 h0 n0) (Jvm.Free.JP.mathPlain rfl (by decide +kernel)) (fun m => ef_rm_maxI m i1 i2) ?_
  intro p e s m below meth c T0 hx hby hml hZ hown hnm hret hlk X0 e0
  have N0 := Fr.nil n0
  refine g_iloadN X0 hx hby d15_0 (pc' := 1) rfl rfl ?_
  refine g_iloadN X0 hx hby d15_1 (pc' := 2) rfl rfl ?_
  have hc2 : ¬ (i1.toInt < i2.toInt) := by omega
  refine g_icmpNo X0 hx hby d15_2 (pc' := 5) (flt (show ¬ (i1 < i2) from fun q => hc2 (Int32.lt_iff_toInt_lt.mp q))).1 rfl ?_
  refine g_iloadN X0 hx hby d15_5 (pc' := 6) rfl rfl ?_
  refine g_goto X0 hx hby d15_6 (pc' := 10) (by decide) (by decide) ?_
  refine Go.retI X0 hx hlk hret (hb hby d15_10) (by decide) (by decide) ?_
  exact ⟨rfl, N0, e0⟩
theorem d13_0 : decode prog_12_method_18_code 0 = .ok (.iload_n 1, 1) := by decide +kernel
theorem d13_1 : decode prog_12_method_18_code 1 = .ok (.aload_n 0, 1) := by decide +kernel
theorem d13_2 : decode prog_12_method_18_code 2 = .ok (.getfield 29, 3) := by decide +kernel
theorem d13_5 : decode prog_12_method_18_code 5 = .ok (.arraylength, 1) := by decide +kernel
theorem d13_6 : decode prog_12_method_18_code 6 = .ok (.if_icmp .ge 12, 3) := by decide +kernel
theorem d13_18 : decode prog_12_method_18_code 18 = .ok (.aload_n 0, 1) := by decide +kernel
theorem d13_19 : decode prog_12_method_18_code 19 = .ok (.getfield 54, 3) := by decide +kernel
theorem d13_22 : decode prog_12_method_18_code 22 = .ok (.aload_n 0, 1) := by decide +kernel
theorem d13_23 : decode prog_12_method_18_code 23 = .ok (.getfield 37, 3) := by decide +kernel
theorem d13_26 : decode prog_12_method_18_code 26 = .ok (.i2l, 1) := by decide +kernel
theorem d13_27 : decode prog_12_method_18_code 27 = .ok (.lsub, 1) := by decide +kernel
theorem d13_28 : decode prog_12_method_18_code 28 = .ok (.iload_n 1, 1) := by decide +kernel
theorem d13_29 : decode prog_12_method_18_code 29 = .ok (.i2l, 1) := by decide +kernel
theorem d13_30 : decode prog_12_method_18_code 30 = .ok (.ladd, 1) := by decide +kernel
theorem d13_31 : decode prog_12_method_18_code 31 = .ok (.lreturn, 1) := by decide +kernel
theorem ef_rm_numA (m : MethodId) (x0 : Addr) (x1 : Int32) : entryFrame m #[(.ref x0), (.int x1)] 2 = mkF m 0 #[.val (.ref x0), .val (.int x1)] [] := by first | (simp [entryFrame, mkF, argsToLocals, Value.category]; done) | rfl
abbrev Q_rm_numA (Z : State) (a1 : Addr) (i1 : Int32) (x7 : Addr) (t1 : Int32) (u1 : Int64) (n7 : Nat) (g7 : Nat → Int64) (h0 : Heap) (n0 : Nat) : Option Value → Heap → List Loc → Prop := fun v h L => v = some (.long ((u1 - (t1.toInt64)) + (i1.toInt64))) ∧ Fr n0 L ∧ h = h0
set_option maxRecDepth 65536 in
set_option maxHeartbeats 40000000 in
theorem rm_numA (l : Launch) (Z : State) (a0 : Array Value) (hw : ∀ d ∈ tables_1, d.before a0 Z = true) (a1 : Addr) (i1 : Int32) (x7 : Addr) (t1 : Int32) (u1 : Int64) (n7 : Nat) (g7 : Nat → Int64) (h0 : Heap) (n0 : Nat) (Z0 : n0 ≤ h0.size) (P0 : Fld Z h0 a1 kES "keptNumbers" "[J" (.ref x7)) (P1 : Fld Z h0 a1 kES "bound" "I" (.int t1)) (P2 : Fld Z h0 a1 kES "nextNumber" "J" (.long u1)) (P3 : ArF Z h0 x7 .long n7 (fun i => .long (g7 i))) (hy : (n7 : Int) ≤ i1.toInt) :
    Con l Z (⟨"com/example/edgewise/edgewise/EdgeSlots", "numberAt", "(I)J"⟩ : MethodName) prog_12_method_18_code 2 (some .long) ({ frames := 0, cells := 0, slots := 0, locals := 0 } : Room) #[(.ref a1), (.int i1)] h0 (Q_rm_numA Z a1 i1 x7 t1 u1 n7 g7 h0 n0) := by
  refine meet (y := (⟨"com/example/edgewise/edgewise/EdgeSlots", "numberAt", "(I)J"⟩ : MethodName)) (Q := Q_rm_numA Z a1 i1 x7 t1 u1 n7 g7 h0 n0) (plainFor_of_name pn_com_example_edgewise_edgewise_EdgeSlots) (fun m => ef_rm_numA m a1 i1) ?_
  intro p e s m below meth c T0 hx hby hml hZ hown hnm hret hlk X0 e0
  have N0 := Fr.nil n0
  refine g_iloadN X0 hx hby d13_0 (pc' := 1) rfl rfl ?_
  refine g_aloadN X0 hx hby d13_1 (pc' := 2) rfl rfl rfl ?_
  refine g_getf X0 hx hby hZ hown (host := "") (Or.inl (wi hw 26 rfl)) Via.refl e0 P0 d13_2 (pc' := 5) rfl ?_
  intro T1 X1 e1
  refine Go.alen X1 hx hZ e1 P3 (z := ((n7 : Nat).toInt32)) rfl (hb hby d13_5) (pc' := 6) rfl ?_
  have hc6 : ¬ (i1.toInt < ((n7 : Nat).toInt32).toInt) := by have := len_toInt P3.len; omega
  refine g_icmpYes X1 hx hby d13_6 (pc' := 18) (flt (show ¬ (i1 < ((n7 : Nat).toInt32)) from fun q => hc6 (Int32.lt_iff_toInt_lt.mp q))).2.1 (by decide) (by decide) ?_
  refine g_aloadN X1 hx hby d13_18 (pc' := 19) rfl rfl rfl ?_
  refine g_getf X1 hx hby hZ hown (host := "") (Or.inl (wi hw 72 rfl)) Via.refl e1 P2 d13_19 (pc' := 22) rfl ?_
  intro T2 X2 e2
  refine g_aloadN X2 hx hby d13_22 (pc' := 23) rfl rfl rfl ?_
  refine g_getf X2 hx hby hZ hown (host := "") (Or.inl (wi hw 35 rfl)) Via.refl e2 P1 d13_23 (pc' := 26) rfl ?_
  intro T3 X3 e3
  refine g_i2l X3 hx hby d13_26 (pc' := 27) rfl rfl ?_
  refine g_lsub X3 hx hby d13_27 (pc' := 28) rfl rfl ?_
  refine g_iloadN X3 hx hby d13_28 (pc' := 29) rfl rfl ?_
  refine g_i2l X3 hx hby d13_29 (pc' := 30) rfl rfl ?_
  refine g_ladd X3 hx hby d13_30 (pc' := 31) rfl rfl ?_
  refine Go.retL X3 hx hlk hret (hb hby d13_31) (by decide) (by decide) ?_
  exact ⟨rfl, N0, e3⟩
theorem d13_9 : decode prog_12_method_18_code 9 = .ok (.aload_n 0, 1) := by decide +kernel
theorem d13_10 : decode prog_12_method_18_code 10 = .ok (.getfield 29, 3) := by decide +kernel
theorem d13_13 : decode prog_12_method_18_code 13 = .ok (.iload_n 1, 1) := by decide +kernel
theorem d13_14 : decode prog_12_method_18_code 14 = .ok (.laload, 1) := by decide +kernel
theorem d13_15 : decode prog_12_method_18_code 15 = .ok (.goto 16, 3) := by decide +kernel
theorem ef_rm_numB (m : MethodId) (x0 : Addr) (x1 : Int32) : entryFrame m #[(.ref x0), (.int x1)] 2 = mkF m 0 #[.val (.ref x0), .val (.int x1)] [] := by first | (simp [entryFrame, mkF, argsToLocals, Value.category]; done) | rfl
abbrev Q_rm_numB (Z : State) (a1 : Addr) (i1 : Int32) (x7 : Addr) (n7 : Nat) (g7 : Nat → Int64) (k1 : Nat) (h0 : Heap) (n0 : Nat) : Option Value → Heap → List Loc → Prop := fun v h L => v = some (.long (g7 k1)) ∧ Fr n0 L ∧ h = h0
set_option maxRecDepth 65536 in
set_option maxHeartbeats 40000000 in
theorem rm_numB (l : Launch) (Z : State) (a0 : Array Value) (hw : ∀ d ∈ tables_1, d.before a0 Z = true) (a1 : Addr) (i1 : Int32) (x7 : Addr) (n7 : Nat) (g7 : Nat → Int64) (k1 : Nat) (h0 : Heap) (n0 : Nat) (Z0 : n0 ≤ h0.size) (P0 : Fld Z h0 a1 kES "keptNumbers" "[J" (.ref x7)) (P1 : ArF Z h0 x7 .long n7 (fun i => .long (g7 i))) (hk : i1.toInt = (k1 : Int)) (hbd : k1 < n7) :
    Con l Z (⟨"com/example/edgewise/edgewise/EdgeSlots", "numberAt", "(I)J"⟩ : MethodName) prog_12_method_18_code 2 (some .long) ({ frames := 0, cells := 0, slots := 0, locals := 0 } : Room) #[(.ref a1), (.int i1)] h0 (Q_rm_numB Z a1 i1 x7 n7 g7 k1 h0 n0) := by
  refine meet (y := (⟨"com/example/edgewise/edgewise/EdgeSlots", "numberAt", "(I)J"⟩ : MethodName)) (Q := Q_rm_numB Z a1 i1 x7 n7 g7 k1 h0 n0) (plainFor_of_name pn_com_example_edgewise_edgewise_EdgeSlots) (fun m => ef_rm_numB m a1 i1) ?_
  intro p e s m below meth c T0 hx hby hml hZ hown hnm hret hlk X0 e0
  have N0 := Fr.nil n0
  refine g_iloadN X0 hx hby d13_0 (pc' := 1) rfl rfl ?_
  refine g_aloadN X0 hx hby d13_1 (pc' := 2) rfl rfl rfl ?_
  refine g_getf X0 hx hby hZ hown (host := "") (Or.inl (wi hw 26 rfl)) Via.refl e0 P0 d13_2 (pc' := 5) rfl ?_
  intro T1 X1 e1
  refine Go.alen X1 hx hZ e1 P1 (z := ((n7 : Nat).toInt32)) rfl (hb hby d13_5) (pc' := 6) rfl ?_
  have hc6 : i1.toInt < ((n7 : Nat).toInt32).toInt := by have := len_toInt P1.len; omega
  refine g_icmpNo X1 hx hby d13_6 (pc' := 9) (tlt (show i1 < ((n7 : Nat).toInt32) from Int32.lt_iff_toInt_lt.mpr hc6)).2.1 rfl ?_
  refine g_aloadN X1 hx hby d13_9 (pc' := 10) rfl rfl rfl ?_
  refine g_getf X1 hx hby hZ hown (host := "") (Or.inl (wi hw 26 rfl)) Via.refl e1 P0 d13_10 (pc' := 13) rfl ?_
  intro T2 X2 e2
  refine g_iloadN X2 hx hby d13_13 (pc' := 14) rfl rfl ?_
  refine Go.laload X2 hx hZ e2 P1 (k := k1) hk hbd rfl (hb hby d13_14) (pc' := 15) rfl ?_
  refine g_goto X2 hx hby d13_15 (pc' := 31) (by decide) (by decide) ?_
  refine Go.retL X2 hx hlk hret (hb hby d13_31) (by decide) (by decide) ?_
  exact ⟨rfl, N0, e2⟩
theorem d11_0 : decode prog_12_method_20_code 0 = .ok (.aload_n 0, 1) := by decide +kernel
theorem d11_1 : decode prog_12_method_20_code 1 = .ok (.getfield 37, 3) := by decide +kernel
theorem d11_4 : decode prog_12_method_20_code 4 = .ok (.aload_n 0, 1) := by decide +kernel
theorem d11_5 : decode prog_12_method_20_code 5 = .ok (.getfield 51, 3) := by decide +kernel
theorem d11_8 : decode prog_12_method_20_code 8 = .ok (.isub, 1) := by decide +kernel
theorem d11_9 : decode prog_12_method_20_code 9 = .ok (.istore 4, 2) := by decide +kernel
theorem d11_11 : decode prog_12_method_20_code 11 = .ok (.aload_n 0, 1) := by decide +kernel
theorem d11_12 : decode prog_12_method_20_code 12 = .ok (.getfield 29, 3) := by decide +kernel
theorem d11_15 : decode prog_12_method_20_code 15 = .ok (.astore 5, 2) := by decide +kernel
theorem d11_17 : decode prog_12_method_20_code 17 = .ok (.iload 4, 2) := by decide +kernel
theorem d11_19 : decode prog_12_method_20_code 19 = .ok (.ifCond .le 47, 3) := by decide +kernel
theorem d11_66 : decode prog_12_method_20_code 66 = .ok (.iconst 0, 1) := by decide +kernel
theorem d11_67 : decode prog_12_method_20_code 67 = .ok (.istore 6, 2) := by decide +kernel
theorem d11_69 : decode prog_12_method_20_code 69 = .ok (.iconst 0, 1) := by decide +kernel
theorem d11_70 : decode prog_12_method_20_code 70 = .ok (.istore 7, 2) := by decide +kernel
theorem d11_72 : decode prog_12_method_20_code 72 = .ok (.iload 7, 2) := by decide +kernel
theorem d11_74 : decode prog_12_method_20_code 74 = .ok (.aload_n 0, 1) := by decide +kernel
theorem d11_75 : decode prog_12_method_20_code 75 = .ok (.getfield 37, 3) := by decide +kernel
theorem d11_78 : decode prog_12_method_20_code 78 = .ok (.if_icmp .ge 146, 3) := by decide +kernel
theorem d11_81 : decode prog_12_method_20_code 81 = .ok (.aload_n 0, 1) := by decide +kernel
theorem d11_82 : decode prog_12_method_20_code 82 = .ok (.getfield 7, 3) := by decide +kernel
theorem d11_85 : decode prog_12_method_20_code 85 = .ok (.iload 7, 2) := by decide +kernel
theorem d11_87 : decode prog_12_method_20_code 87 = .ok (.iaload, 1) := by decide +kernel
theorem d11_88 : decode prog_12_method_20_code 88 = .ok (.iconst (-1), 1) := by decide +kernel
theorem d11_89 : decode prog_12_method_20_code 89 = .ok (.if_icmp .ne 6, 3) := by decide +kernel
theorem d11_95 : decode prog_12_method_20_code 95 = .ok (.aload_n 1, 1) := by decide +kernel
theorem d11_96 : decode prog_12_method_20_code 96 = .ok (.aload_n 0, 1) := by decide +kernel
theorem d11_97 : decode prog_12_method_20_code 97 = .ok (.getfield 7, 3) := by decide +kernel
theorem d11_100 : decode prog_12_method_20_code 100 = .ok (.iload 7, 2) := by decide +kernel
theorem d11_102 : decode prog_12_method_20_code 102 = .ok (.iaload, 1) := by decide +kernel
theorem d11_103 : decode prog_12_method_20_code 103 = .ok (.iaload, 1) := by decide +kernel
theorem d11_104 : decode prog_12_method_20_code 104 = .ok (.istore 8, 2) := by decide +kernel
theorem d11_106 : decode prog_12_method_20_code 106 = .ok (.aload_n 1, 1) := by decide +kernel
theorem d11_107 : decode prog_12_method_20_code 107 = .ok (.aload_n 0, 1) := by decide +kernel
theorem d11_108 : decode prog_12_method_20_code 108 = .ok (.getfield 13, 3) := by decide +kernel
theorem d11_111 : decode prog_12_method_20_code 111 = .ok (.iload 7, 2) := by decide +kernel
theorem d11_113 : decode prog_12_method_20_code 113 = .ok (.iaload, 1) := by decide +kernel
theorem d11_114 : decode prog_12_method_20_code 114 = .ok (.iaload, 1) := by decide +kernel
theorem d11_115 : decode prog_12_method_20_code 115 = .ok (.istore 9, 2) := by decide +kernel
theorem d11_117 : decode prog_12_method_20_code 117 = .ok (.iload 4, 2) := by decide +kernel
theorem d11_119 : decode prog_12_method_20_code 119 = .ok (.ifCond .le 22, 3) := by decide +kernel
theorem d11_141 : decode prog_12_method_20_code 141 = .ok (.iload 6, 2) := by decide +kernel
theorem d11_143 : decode prog_12_method_20_code 143 = .ok (.iload 7, 2) := by decide +kernel
theorem d11_145 : decode prog_12_method_20_code 145 = .ok (.if_icmp .eq 52, 3) := by decide +kernel
theorem d11_197 : decode prog_12_method_20_code 197 = .ok (.aload_n 0, 1) := by decide +kernel
theorem d11_198 : decode prog_12_method_20_code 198 = .ok (.getfield 7, 3) := by decide +kernel
theorem d11_201 : decode prog_12_method_20_code 201 = .ok (.iload 6, 2) := by decide +kernel
theorem d11_203 : decode prog_12_method_20_code 203 = .ok (.iload 8, 2) := by decide +kernel
theorem d11_205 : decode prog_12_method_20_code 205 = .ok (.iastore, 1) := by decide +kernel
theorem d11_206 : decode prog_12_method_20_code 206 = .ok (.aload_n 0, 1) := by decide +kernel
theorem d11_207 : decode prog_12_method_20_code 207 = .ok (.getfield 13, 3) := by decide +kernel
theorem d11_210 : decode prog_12_method_20_code 210 = .ok (.iload 6, 2) := by decide +kernel
theorem d11_212 : decode prog_12_method_20_code 212 = .ok (.iload 9, 2) := by decide +kernel
theorem d11_214 : decode prog_12_method_20_code 214 = .ok (.iastore, 1) := by decide +kernel
theorem d11_215 : decode prog_12_method_20_code 215 = .ok (.iinc 6 1, 3) := by decide +kernel
theorem d11_218 : decode prog_12_method_20_code 218 = .ok (.iinc 7 1, 3) := by decide +kernel
theorem d11_221 : decode prog_12_method_20_code 221 = .ok (.goto (-149), 3) := by decide +kernel
theorem d11_224 : decode prog_12_method_20_code 224 = .ok (.aload_n 0, 1) := by decide +kernel
theorem d11_225 : decode prog_12_method_20_code 225 = .ok (.aload 5, 2) := by decide +kernel
theorem d11_227 : decode prog_12_method_20_code 227 = .ok (.putfield 29, 3) := by decide +kernel
theorem d11_230 : decode prog_12_method_20_code 230 = .ok (.aload_n 0, 1) := by decide +kernel
theorem d11_231 : decode prog_12_method_20_code 231 = .ok (.iload 6, 2) := by decide +kernel
theorem d11_233 : decode prog_12_method_20_code 233 = .ok (.putfield 37, 3) := by decide +kernel
theorem d11_236 : decode prog_12_method_20_code 236 = .ok (.aload_n 0, 1) := by decide +kernel
theorem d11_237 : decode prog_12_method_20_code 237 = .ok (.getfield 7, 3) := by decide +kernel
theorem d11_240 : decode prog_12_method_20_code 240 = .ok (.arraylength, 1) := by decide +kernel
theorem d11_241 : decode prog_12_method_20_code 241 = .ok (.aload_n 0, 1) := by decide +kernel
theorem d11_242 : decode prog_12_method_20_code 242 = .ok (.getfield 37, 3) := by decide +kernel
theorem d11_245 : decode prog_12_method_20_code 245 = .ok (.invokestatic 84, 3) := by decide +kernel
theorem d11_248 : decode prog_12_method_20_code 248 = .ok (.istore 7, 2) := by decide +kernel
theorem d11_250 : decode prog_12_method_20_code 250 = .ok (.iload 7, 2) := by decide +kernel
theorem d11_252 : decode prog_12_method_20_code 252 = .ok (.aload_n 0, 1) := by decide +kernel
theorem d11_253 : decode prog_12_method_20_code 253 = .ok (.getfield 7, 3) := by decide +kernel
theorem d11_256 : decode prog_12_method_20_code 256 = .ok (.arraylength, 1) := by decide +kernel
theorem d11_257 : decode prog_12_method_20_code 257 = .ok (.if_icmp .ge 9, 3) := by decide +kernel
theorem d11_266 : decode prog_12_method_20_code 266 = .ok (.return_, 1) := by decide +kernel
theorem ef_rm_compactA0 (m : MethodId) (x0 : Addr) (x1 : Addr) : entryFrame m #[(.ref x0), (.ref x1), .null, .null] 10 = mkF m 0 #[.val (.ref x0), .val (.ref x1), .val .null, .val .null, .unset, .unset, .unset, .unset, .unset, .unset] [] := by first | (simp [entryFrame, mkF, argsToLocals, Value.category]; done) | rfl
abbrev Q_rm_compactA0 (Z : State) (a1 : Addr) (y1 : Addr) (x1 : Addr) (x2 : Addr) (x7 : Addr) (kd : Int32) (x3 : Addr) (x4 : Addr) (x5 : Addr) (x6 : Addr) (g7 : Nat → Int64) (h0 : Heap) (n0 : Nat) : Option Value → Heap → List Loc → Prop := fun v h L => v = none ∧ Fr n0 L ∧ Keep h0 h [a1, x1, x2] ∧ Fld Z h a1 kES "sources" "[I" (.ref x1) ∧ Fld Z h a1 kES "targets" "[I" (.ref x2) ∧ Fld Z h a1 kES "bound" "I" (.int (1 : Int32)) ∧ Fld Z h a1 kES "count" "I" (.int (1 : Int32)) ∧ Fld Z h a1 kES "keptNumbers" "[J" (.ref x7) ∧ Fld Z h a1 kES "nextNumber" "J" (.long (1 : Int64)) ∧ Fld Z h a1 kES "keyed" "Z" (.int kd) ∧ Fld Z h a1 kES "sourcePositions" "[I" (.ref x3) ∧ Fld Z h a1 kES "targetPositions" "[I" (.ref x4) ∧ Fld Z h a1 kES "weights" "[D" (.ref x5) ∧ Fld Z h a1 kES "keys" "[I" (.ref x6) ∧ ArF Z h x1 .int 4 (fun i => .int ((own_l [(0 : Int32), (0 : Int32), (0 : Int32), (0 : Int32)]) i)) ∧ ArF Z h x2 .int 4 (fun i => .int ((own_l [(0 : Int32), (0 : Int32), (0 : Int32), (0 : Int32)]) i))
set_option maxRecDepth 65536 in
set_option maxHeartbeats 40000000 in
theorem rm_compactA0 (l : Launch) (Z : State) (a0 : Array Value) (hw : ∀ d ∈ tables_1, d.before a0 Z = true) (a1 : Addr) (y1 : Addr) (x1 : Addr) (x2 : Addr) (x7 : Addr) (kd : Int32) (x3 : Addr) (x4 : Addr) (x5 : Addr) (x6 : Addr) (g7 : Nat → Int64) (h0 : Heap) (n0 : Nat) (Z0 : n0 ≤ h0.size) (P0 : Exa Z h0 a1 kES) (P1 : Fld Z h0 a1 kES "sources" "[I" (.ref x1)) (P2 : Fld Z h0 a1 kES "targets" "[I" (.ref x2)) (P3 : Fld Z h0 a1 kES "bound" "I" (.int (1 : Int32))) (P4 : Fld Z h0 a1 kES "count" "I" (.int (1 : Int32))) (P5 : Fld Z h0 a1 kES "keptNumbers" "[J" (.ref x7)) (P6 : Fld Z h0 a1 kES "nextNumber" "J" (.long (1 : Int64))) (P7 : Fld Z h0 a1 kES "keyed" "Z" (.int kd)) (P8 : Fld Z h0 a1 kES "sourcePositions" "[I" (.ref x3)) (P9 : Fld Z h0 a1 kES "targetPositions" "[I" (.ref x4)) (P10 : Fld Z h0 a1 kES "weights" "[D" (.ref x5)) (P11 : Fld Z h0 a1 kES "keys" "[I" (.ref x6)) (P12 : ArF Z h0 x1 .int 4 (fun i => .int ((own_l [(0 : Int32), (0 : Int32), (0 : Int32), (0 : Int32)]) i))) (P13 : ArF Z h0 x2 .int 4 (fun i => .int ((own_l [(0 : Int32), (0 : Int32), (0 : Int32), (0 : Int32)]) i))) (P14 : ArF Z h0 x7 .long 0 (fun i => .long (g7 i))) (P15 : ArF Z h0 y1 .int 1 (fun i => .int ((own_l [(0 : Int32)]) i))) (ne_x1_a1 : x1 ≠ a1) (ne_x2_a1 : x2 ≠ a1) (ne_x1_x2 : x1 ≠ x2) (ne_x7_a1 : x7 ≠ a1) (ne_x7_x1 : x7 ≠ x1) (ne_x7_x2 : x7 ≠ x2) (ne_y1_a1 : y1 ≠ a1) (ne_y1_x1 : y1 ≠ x1) (ne_y1_x2 : y1 ≠ x2) (ge_a1 : n0 ≤ a1) (ge_x1 : n0 ≤ x1) (ge_x2 : n0 ≤ x2) :
    Con l Z (⟨"com/example/edgewise/edgewise/EdgeSlots", "compact", "([ILcom/example/edgewise/edgewise/Adjacency;Lcom/example/edgewise/edgewise/Adjacency;)V"⟩ : MethodName) prog_12_method_20_code 10 none ({ frames := 1, cells := 0, slots := 0, locals := 13 } : Room) #[(.ref a1), (.ref y1), .null, .null] h0 (Q_rm_compactA0 Z a1 y1 x1 x2 x7 kd x3 x4 x5 x6 g7 h0 n0) := by
  refine meet (y := (⟨"com/example/edgewise/edgewise/EdgeSlots", "compact", "([ILcom/example/edgewise/edgewise/Adjacency;Lcom/example/edgewise/edgewise/Adjacency;)V"⟩ : MethodName)) (Q := Q_rm_compactA0 Z a1 y1 x1 x2 x7 kd x3 x4 x5 x6 g7 h0 n0) (plainFor_of_name pn_com_example_edgewise_edgewise_EdgeSlots) (fun m => ef_rm_compactA0 m a1 y1) ?_
  intro p e s m below meth c T0 hx hby hml hZ hown hnm hret hlk X0 e0
  have N0 := Fr.nil n0
  have K0 := Keep.refl h0 [a1, x1, x2]
  refine g_aloadN X0 hx hby d11_0 (pc' := 1) rfl rfl rfl ?_
  refine g_getf X0 hx hby hZ hown (host := "") (Or.inl (wi hw 35 rfl)) Via.refl e0 P3 d11_1 (pc' := 4) rfl ?_
  intro T1 X1 e1
  refine g_aloadN X1 hx hby d11_4 (pc' := 5) rfl rfl rfl ?_
  refine g_getf X1 hx hby hZ hown (host := "") (Or.inl (wi hw 70 rfl)) Via.refl e1 P4 d11_5 (pc' := 8) rfl ?_
  intro T2 X2 e2
  refine g_isub X2 hx hby d11_8 (pc' := 9) rfl (z := (0 : Int32)) rfl ?_
  refine g_istore X2 hx hby d11_9 (pc' := 11) rfl (L' := #[.val (.ref a1), .val (.ref y1), .val .null, .val .null, .val (.int (0 : Int32)), .unset, .unset, .unset, .unset, .unset]) rfl ?_
  refine g_aloadN X2 hx hby d11_11 (pc' := 12) rfl rfl rfl ?_
  refine g_getf X2 hx hby hZ hown (host := "") (Or.inl (wi hw 26 rfl)) Via.refl e2 P5 d11_12 (pc' := 15) rfl ?_
  intro T3 X3 e3
  refine g_astore X3 hx hby d11_15 (pc' := 17) rfl rfl (L' := #[.val (.ref a1), .val (.ref y1), .val .null, .val .null, .val (.int (0 : Int32)), .val (.ref x7), .unset, .unset, .unset, .unset]) rfl ?_
  refine g_iload X3 hx hby d11_17 (pc' := 19) rfl rfl ?_
  have hc19 : ¬ ((0 : Int) < (0 : Int)) := by decide
  refine g_ifYes X3 hx hby d11_19 (pc' := 66) (flt (show ¬ ((0 : Int32) < (0 : Int32)) from fun q => hc19 (Int32.lt_iff_toInt_lt.mp q))).2.2.2 (by decide) (by decide) ?_
  refine g_iconst X3 hx hby d11_66 (pc' := 67) rfl (z := (0 : Int32)) rfl ?_
  refine g_istore X3 hx hby d11_67 (pc' := 69) rfl (L' := #[.val (.ref a1), .val (.ref y1), .val .null, .val .null, .val (.int (0 : Int32)), .val (.ref x7), .val (.int (0 : Int32)), .unset, .unset, .unset]) rfl ?_
  refine g_iconst X3 hx hby d11_69 (pc' := 70) rfl (z := (0 : Int32)) rfl ?_
  refine g_istore X3 hx hby d11_70 (pc' := 72) rfl (L' := #[.val (.ref a1), .val (.ref y1), .val .null, .val .null, .val (.int (0 : Int32)), .val (.ref x7), .val (.int (0 : Int32)), .val (.int (0 : Int32)), .unset, .unset]) rfl ?_
  refine g_iload X3 hx hby d11_72 (pc' := 74) rfl rfl ?_
  refine g_aloadN X3 hx hby d11_74 (pc' := 75) rfl rfl rfl ?_
  refine g_getf X3 hx hby hZ hown (host := "") (Or.inl (wi hw 35 rfl)) Via.refl e3 P3 d11_75 (pc' := 78) rfl ?_
  intro T4 X4 e4
  have hc78 : (0 : Int) < (1 : Int) := by decide
  refine g_icmpNo X4 hx hby d11_78 (pc' := 81) (tlt (show (0 : Int32) < (1 : Int32) from Int32.lt_iff_toInt_lt.mpr hc78)).2.1 rfl ?_
  refine g_aloadN X4 hx hby d11_81 (pc' := 82) rfl rfl rfl ?_
  refine g_getf X4 hx hby hZ hown (host := "") (Or.inl (wi hw 13 rfl)) Via.refl e4 P1 d11_82 (pc' := 85) rfl ?_
  intro T5 X5 e5
  refine g_iload X5 hx hby d11_85 (pc' := 87) rfl rfl ?_
  refine Go.iaload X5 hx hZ e5 P12 (k := 0) rfl (by decide) (v := (0 : Int32)) rfl (hb hby d11_87) (pc' := 88) rfl ?_
  refine g_iconst X5 hx hby d11_88 (pc' := 89) rfl (z := (-1 : Int32)) rfl ?_
  have hc89 : ¬ ((0 : Int) = (-1 : Int)) := by decide
  refine g_icmpYes X5 hx hby d11_89 (pc' := 95) (feq (show ¬ ((0 : Int32) = (-1 : Int32)) from fun q => hc89 (congrArg Int32.toInt q))).2 (by decide) (by decide) ?_
  refine g_aloadN X5 hx hby d11_95 (pc' := 96) rfl rfl rfl ?_
  refine g_aloadN X5 hx hby d11_96 (pc' := 97) rfl rfl rfl ?_
  refine g_getf X5 hx hby hZ hown (host := "") (Or.inl (wi hw 13 rfl)) Via.refl e5 P1 d11_97 (pc' := 100) rfl ?_
  intro T6 X6 e6
  refine g_iload X6 hx hby d11_100 (pc' := 102) rfl rfl ?_
  refine Go.iaload X6 hx hZ e6 P12 (k := 0) rfl (by decide) (v := (0 : Int32)) rfl (hb hby d11_102) (pc' := 103) rfl ?_
  refine Go.iaload X6 hx hZ e6 P15 (k := 0) rfl (by decide) (v := (0 : Int32)) rfl (hb hby d11_103) (pc' := 104) rfl ?_
  refine g_istore X6 hx hby d11_104 (pc' := 106) rfl (L' := #[.val (.ref a1), .val (.ref y1), .val .null, .val .null, .val (.int (0 : Int32)), .val (.ref x7), .val (.int (0 : Int32)), .val (.int (0 : Int32)), .val (.int (0 : Int32)), .unset]) rfl ?_
  refine g_aloadN X6 hx hby d11_106 (pc' := 107) rfl rfl rfl ?_
  refine g_aloadN X6 hx hby d11_107 (pc' := 108) rfl rfl rfl ?_
  refine g_getf X6 hx hby hZ hown (host := "") (Or.inl (wi hw 15 rfl)) Via.refl e6 P2 d11_108 (pc' := 111) rfl ?_
  intro T7 X7 e7
  refine g_iload X7 hx hby d11_111 (pc' := 113) rfl rfl ?_
  refine Go.iaload X7 hx hZ e7 P13 (k := 0) rfl (by decide) (v := (0 : Int32)) rfl (hb hby d11_113) (pc' := 114) rfl ?_
  refine Go.iaload X7 hx hZ e7 P15 (k := 0) rfl (by decide) (v := (0 : Int32)) rfl (hb hby d11_114) (pc' := 115) rfl ?_
  refine g_istore X7 hx hby d11_115 (pc' := 117) rfl (L' := #[.val (.ref a1), .val (.ref y1), .val .null, .val .null, .val (.int (0 : Int32)), .val (.ref x7), .val (.int (0 : Int32)), .val (.int (0 : Int32)), .val (.int (0 : Int32)), .val (.int (0 : Int32))]) rfl ?_
  refine g_iload X7 hx hby d11_117 (pc' := 119) rfl rfl ?_
  have hc119 : ¬ ((0 : Int) < (0 : Int)) := by decide
  refine g_ifYes X7 hx hby d11_119 (pc' := 141) (flt (show ¬ ((0 : Int32) < (0 : Int32)) from fun q => hc119 (Int32.lt_iff_toInt_lt.mp q))).2.2.2 (by decide) (by decide) ?_
  refine g_iload X7 hx hby d11_141 (pc' := 143) rfl rfl ?_
  refine g_iload X7 hx hby d11_143 (pc' := 145) rfl rfl ?_
  have hc145 : (0 : Int) = (0 : Int) := by decide
  refine g_icmpYes X7 hx hby d11_145 (pc' := 197) (teq (show (0 : Int32) = (0 : Int32) from Int32.toInt_inj.mp hc145)).1 (by decide) (by decide) ?_
  refine g_aloadN X7 hx hby d11_197 (pc' := 198) rfl rfl rfl ?_
  refine g_getf X7 hx hby hZ hown (host := "") (Or.inl (wi hw 13 rfl)) Via.refl e7 P1 d11_198 (pc' := 201) rfl ?_
  intro T8 X8 e8
  refine g_iload X8 hx hby d11_201 (pc' := 203) rfl rfl ?_
  refine g_iload X8 hx hby d11_203 (pc' := 205) rfl rfl ?_
  refine Go.iastore X8 hx hZ e8 P12 (k := 0) rfl (by decide) (hb hby d11_205) (pc' := 206) rfl ?_
  intro T9 h9 X9 e9 W9 V9
  refine g_aloadN X9 hx hby d11_206 (pc' := 207) rfl rfl rfl ?_
  have f10 := (P2.other W9 (Or.inl (Ne.symm ne_x1_a1)))
  refine g_getf X9 hx hby hZ hown (host := "") (Or.inl (wi hw 15 rfl)) Via.refl e9 f10 d11_207 (pc' := 210) rfl ?_
  intro T11 X11 e11
  refine g_iload X11 hx hby d11_210 (pc' := 212) rfl rfl ?_
  refine g_iload X11 hx hby d11_212 (pc' := 214) rfl rfl ?_
  have f12 := (P13.other W9 (Ne.symm ne_x1_x2))
  refine Go.iastore X11 hx hZ e11 f12 (k := 0) rfl (by decide) (hb hby d11_214) (pc' := 215) rfl ?_
  intro T13 h13 X13 e13 W13 V13
  refine g_iinc X13 hx hby d11_215 (pc' := 218) rfl rfl (L' := #[.val (.ref a1), .val (.ref y1), .val .null, .val .null, .val (.int (0 : Int32)), .val (.ref x7), .val (.int (1 : Int32)), .val (.int (0 : Int32)), .val (.int (0 : Int32)), .val (.int (0 : Int32))]) rfl ?_
  refine g_iinc X13 hx hby d11_218 (pc' := 221) rfl rfl (L' := #[.val (.ref a1), .val (.ref y1), .val .null, .val .null, .val (.int (0 : Int32)), .val (.ref x7), .val (.int (1 : Int32)), .val (.int (1 : Int32)), .val (.int (0 : Int32)), .val (.int (0 : Int32))]) rfl ?_
  refine g_goto X13 hx hby d11_221 (pc' := 72) (by decide) (by decide) ?_
  refine g_iload X13 hx hby d11_72 (pc' := 74) rfl rfl ?_
  refine g_aloadN X13 hx hby d11_74 (pc' := 75) rfl rfl rfl ?_
  have f14 := ((P3.other W9 (Or.inl (Ne.symm ne_x1_a1))).other W13 (Or.inl (Ne.symm ne_x2_a1)))
  refine g_getf X13 hx hby hZ hown (host := "") (Or.inl (wi hw 35 rfl)) Via.refl e13 f14 d11_75 (pc' := 78) rfl ?_
  intro T15 X15 e15
  have hc78 : ¬ ((1 : Int) < (1 : Int)) := by decide
  refine g_icmpYes X15 hx hby d11_78 (pc' := 224) (flt (show ¬ ((1 : Int32) < (1 : Int32)) from fun q => hc78 (Int32.lt_iff_toInt_lt.mp q))).2.1 (by decide) (by decide) ?_
  refine g_aloadN X15 hx hby d11_224 (pc' := 225) rfl rfl rfl ?_
  refine g_aload X15 hx hby d11_225 (pc' := 227) rfl rfl rfl ?_
  have f16 := ((P5.other W9 (Or.inl (Ne.symm ne_x1_a1))).other W13 (Or.inl (Ne.symm ne_x2_a1)))
  have f17 := ((P0.wr W9).wr W13)
  refine g_putf X15 hx hby hZ hown (host := "") (Or.inl (wi hw 26 rfl)) Via.refl e15 f16 f17 (Or.inl (wi hw 27 rfl)) (wi hw 5 rfl) (ty := (.array .long)) (by decide) rfl rfl d11_227 (pc' := 230) rfl ?_
  intro T18 h18 X18 e18 W18 F18
  refine g_aloadN X18 hx hby d11_230 (pc' := 231) rfl rfl rfl ?_
  refine g_iload X18 hx hby d11_231 (pc' := 233) rfl rfl ?_
  have f19 := (f14.other W18 (Or.inr (sn62 hw)))
  have f20 := f17.wr W18
  refine g_putf X18 hx hby hZ hown (host := "") (Or.inl (wi hw 35 rfl)) Via.refl e18 f19 f20 (Or.inl (wi hw 36 rfl)) (wi hw 5 rfl) (ty := .int) (by decide) rfl rfl d11_233 (pc' := 236) rfl ?_
  intro T21 h21 X21 e21 W21 F21
  have z22 : n0 ≤ h21.size := (Nat.le_trans (Nat.le_trans (Nat.le_trans (Nat.le_trans Z0 (Nat.le_of_eq (Wr.size W9).symm)) (Nat.le_of_eq (Wr.size W13).symm)) (Nat.le_of_eq (Wr.size W18).symm)) (Nat.le_of_eq (Wr.size W21).symm))
  have K23 : Keep h0 h21 [a1, x1, x2] := ((((K0.wr W9 (Or.inl (List.mem_of_getElem? (i := 1) rfl))).wr W13 (Or.inl (List.mem_of_getElem? (i := 2) rfl))).wr W18 (Or.inl (List.mem_of_getElem? (i := 0) rfl))).wr W21 (Or.inl (List.mem_of_getElem? (i := 0) rfl)))
  refine g_aloadN X21 hx hby d11_236 (pc' := 237) rfl rfl rfl ?_
  have f24 := ((((P1.other W9 (Or.inl (Ne.symm ne_x1_a1))).other W13 (Or.inl (Ne.symm ne_x2_a1))).other W18 (Or.inr (sn33 hw))).other W21 (Or.inr (sn83 hw)))
  refine g_getf X21 hx hby hZ hown (host := "") (Or.inl (wi hw 13 rfl)) Via.refl e21 f24 d11_237 (pc' := 240) rfl ?_
  intro T25 X25 e25
  have f26 := (((V9.other W13 ne_x1_x2).other W18 ne_x1_a1).other W21 ne_x1_a1)
  refine Go.alen X25 hx hZ e25 f26 (z := (4 : Int32)) rfl (hb hby d11_240) (pc' := 241) rfl ?_
  refine g_aloadN X25 hx hby d11_241 (pc' := 242) rfl rfl rfl ?_
  refine g_getf X25 hx hby hZ hown (host := "") (Or.inl (wi hw 35 rfl)) Via.refl e25 F21 d11_242 (pc' := 245) rfl ?_
  intro T27 X27 e27
  refine Go.callS X27 hx hZ hown (wi hw 79 rfl) (wi hw 80 rfl) (wi hw 39 rfl) (wi hw 81 rfl) (by decide) e27 (argsL := [(.int (4 : Int32)), (.int (1 : Int32))]) (rest := []) (W := 0) (rm_trim l Z a0 hw (1 : Int32) h21 n0 z22 ) (hb hby d11_245) (by rw [hml]; rfl) rfl pd1 rfl rfl (by decide) (by decide) (by decide) (by decide) ?_
  intro v28 T28 L28 X28 hQ28
  obtain ⟨rfl, Nq28, hh28⟩ := hQ28
  have N28 := Fr.app (Fr.snoc X21 (Fr.snoc X18 (Fr.snoc X13 (Fr.snoc X9 N0 ge_x1) ge_x2) ge_a1) ge_a1) Nq28
  refine Go.push (pc' := 248) rfl ?_
  refine g_istore X28 hx hby d11_248 (pc' := 250) rfl (L' := #[.val (.ref a1), .val (.ref y1), .val .null, .val .null, .val (.int (0 : Int32)), .val (.ref x7), .val (.int (1 : Int32)), .val (.int (4 : Int32)), .val (.int (0 : Int32)), .val (.int (0 : Int32))]) rfl ?_
  refine g_iload X28 hx hby d11_250 (pc' := 252) rfl rfl ?_
  refine g_aloadN X28 hx hby d11_252 (pc' := 253) rfl rfl rfl ?_
  refine g_getf X28 hx hby hZ hown (host := "") (Or.inl (wi hw 13 rfl)) Via.refl hh28 f24 d11_253 (pc' := 256) rfl ?_
  intro T29 X29 e29
  refine Go.alen X29 hx hZ e29 f26 (z := (4 : Int32)) rfl (hb hby d11_256) (pc' := 257) rfl ?_
  have hc257 : ¬ ((4 : Int) < (4 : Int)) := by decide
  refine g_icmpYes X29 hx hby d11_257 (pc' := 266) (flt (show ¬ ((4 : Int32) < (4 : Int32)) from fun q => hc257 (Int32.lt_iff_toInt_lt.mp q))).2.1 (by decide) (by decide) ?_
  refine Go.retV X29 hx hlk hret (hb hby d11_266) rfl (by decide) (by decide) ?_
  have V30 : ArF Z h21 x1 .int 4 (fun i => .int ((own_l [(0 : Int32), (0 : Int32), (0 : Int32), (0 : Int32)]) i)) := f26.congr (fun i hi => congrArg Value.int ((by decide : ∀ i, i < 4 → (own_l [(0 : Int32), (0 : Int32), (0 : Int32), (0 : Int32)]) i = (upI (own_l [(0 : Int32), (0 : Int32), (0 : Int32), (0 : Int32)]) 0 (0 : Int32)) i) i hi))
  have f31 := ((V13.other W18 ne_x2_a1).other W21 ne_x2_a1)
  have V32 : ArF Z h21 x2 .int 4 (fun i => .int ((own_l [(0 : Int32), (0 : Int32), (0 : Int32), (0 : Int32)]) i)) := f31.congr (fun i hi => congrArg Value.int ((by decide : ∀ i, i < 4 → (own_l [(0 : Int32), (0 : Int32), (0 : Int32), (0 : Int32)]) i = (upI (own_l [(0 : Int32), (0 : Int32), (0 : Int32), (0 : Int32)]) 0 (0 : Int32)) i) i hi))
  rw [e29]
  have f33 := (((f10.other W13 (Or.inl (Ne.symm ne_x2_a1))).other W18 (Or.inr (sn39 hw))).other W21 (Or.inr (sn86 hw)))
  have f34 := ((((P4.other W9 (Or.inl (Ne.symm ne_x1_a1))).other W13 (Or.inl (Ne.symm ne_x2_a1))).other W18 (Or.inr (sn70 hw))).other W21 (Or.inr (sn80 hw)))
  have f35 := (F18.other W21 (Or.inr (sn101 hw)))
  have f36 := ((((P6.other W9 (Or.inl (Ne.symm ne_x1_a1))).other W13 (Or.inl (Ne.symm ne_x2_a1))).other W18 (Or.inr (sn78 hw))).other W21 (Or.inr (sn81 hw)))
  have f37 := ((((P7.other W9 (Or.inl (Ne.symm ne_x1_a1))).other W13 (Or.inl (Ne.symm ne_x2_a1))).other W18 (Or.inr (sn27 hw))).other W21 (Or.inr (sn98 hw)))
  have f38 := ((((P8.other W9 (Or.inl (Ne.symm ne_x1_a1))).other W13 (Or.inl (Ne.symm ne_x2_a1))).other W18 (Or.inr (sn44 hw))).other W21 (Or.inr (sn89 hw)))
  have f39 := ((((P9.other W9 (Or.inl (Ne.symm ne_x1_a1))).other W13 (Or.inl (Ne.symm ne_x2_a1))).other W18 (Or.inr (sn48 hw))).other W21 (Or.inr (sn92 hw)))
  have f40 := ((((P10.other W9 (Or.inl (Ne.symm ne_x1_a1))).other W13 (Or.inl (Ne.symm ne_x2_a1))).other W18 (Or.inr (sn51 hw))).other W21 (Or.inr (sn95 hw)))
  have f41 := ((((P11.other W9 (Or.inl (Ne.symm ne_x1_a1))).other W13 (Or.inl (Ne.symm ne_x2_a1))).other W18 (Or.inr (sn53 hw))).other W21 (Or.inr (sn104 hw)))
  exact ⟨rfl, N28, K23, f24, f33, F21, f34, f35, f36, f37, f38, f39, f40, f41, V30, V32⟩
theorem ef_rm_compactB00 (m : MethodId) (x0 : Addr) (x1 : Addr) : entryFrame m #[(.ref x0), (.ref x1), .null, .null] 10 = mkF m 0 #[.val (.ref x0), .val (.ref x1), .val .null, .val .null, .unset, .unset, .unset, .unset, .unset, .unset] [] := by first | (simp [entryFrame, mkF, argsToLocals, Value.category]; done) | rfl
abbrev Q_rm_compactB00 (Z : State) (a1 : Addr) (y1 : Addr) (x1 : Addr) (x2 : Addr) (x7 : Addr) (kd : Int32) (x3 : Addr) (x4 : Addr) (x5 : Addr) (x6 : Addr) (g7 : Nat → Int64) (h0 : Heap) (n0 : Nat) : Option Value → Heap → List Loc → Prop := fun v h L => v = none ∧ Fr n0 L ∧ Keep h0 h [a1, x1, x2] ∧ Fld Z h a1 kES "sources" "[I" (.ref x1) ∧ Fld Z h a1 kES "targets" "[I" (.ref x2) ∧ Fld Z h a1 kES "bound" "I" (.int (3 : Int32)) ∧ Fld Z h a1 kES "count" "I" (.int (3 : Int32)) ∧ Fld Z h a1 kES "keptNumbers" "[J" (.ref x7) ∧ Fld Z h a1 kES "nextNumber" "J" (.long (3 : Int64)) ∧ Fld Z h a1 kES "keyed" "Z" (.int kd) ∧ Fld Z h a1 kES "sourcePositions" "[I" (.ref x3) ∧ Fld Z h a1 kES "targetPositions" "[I" (.ref x4) ∧ Fld Z h a1 kES "weights" "[D" (.ref x5) ∧ Fld Z h a1 kES "keys" "[I" (.ref x6) ∧ ArF Z h x1 .int 4 (fun i => .int ((own_l [(0 : Int32), (0 : Int32), (0 : Int32), (0 : Int32)]) i)) ∧ ArF Z h x2 .int 4 (fun i => .int ((own_l [(0 : Int32), (0 : Int32), (0 : Int32), (0 : Int32)]) i))
set_option maxRecDepth 65536 in
set_option maxHeartbeats 40000000 in
theorem rm_compactB00 (l : Launch) (Z : State) (a0 : Array Value) (hw : ∀ d ∈ tables_1, d.before a0 Z = true) (a1 : Addr) (y1 : Addr) (x1 : Addr) (x2 : Addr) (x7 : Addr) (kd : Int32) (x3 : Addr) (x4 : Addr) (x5 : Addr) (x6 : Addr) (g7 : Nat → Int64) (h0 : Heap) (n0 : Nat) (Z0 : n0 ≤ h0.size) (P0 : Exa Z h0 a1 kES) (P1 : Fld Z h0 a1 kES "sources" "[I" (.ref x1)) (P2 : Fld Z h0 a1 kES "targets" "[I" (.ref x2)) (P3 : Fld Z h0 a1 kES "bound" "I" (.int (3 : Int32))) (P4 : Fld Z h0 a1 kES "count" "I" (.int (3 : Int32))) (P5 : Fld Z h0 a1 kES "keptNumbers" "[J" (.ref x7)) (P6 : Fld Z h0 a1 kES "nextNumber" "J" (.long (3 : Int64))) (P7 : Fld Z h0 a1 kES "keyed" "Z" (.int kd)) (P8 : Fld Z h0 a1 kES "sourcePositions" "[I" (.ref x3)) (P9 : Fld Z h0 a1 kES "targetPositions" "[I" (.ref x4)) (P10 : Fld Z h0 a1 kES "weights" "[D" (.ref x5)) (P11 : Fld Z h0 a1 kES "keys" "[I" (.ref x6)) (P12 : ArF Z h0 x1 .int 4 (fun i => .int ((own_l [(0 : Int32), (0 : Int32), (0 : Int32), (0 : Int32)]) i))) (P13 : ArF Z h0 x2 .int 4 (fun i => .int ((own_l [(0 : Int32), (0 : Int32), (0 : Int32), (0 : Int32)]) i))) (P14 : ArF Z h0 x7 .long 0 (fun i => .long (g7 i))) (P15 : ArF Z h0 y1 .int 1 (fun i => .int ((own_l [(0 : Int32)]) i))) (ne_x1_a1 : x1 ≠ a1) (ne_x2_a1 : x2 ≠ a1) (ne_x1_x2 : x1 ≠ x2) (ne_x7_a1 : x7 ≠ a1) (ne_x7_x1 : x7 ≠ x1) (ne_x7_x2 : x7 ≠ x2) (ne_y1_a1 : y1 ≠ a1) (ne_y1_x1 : y1 ≠ x1) (ne_y1_x2 : y1 ≠ x2) (ge_a1 : n0 ≤ a1) (ge_x1 : n0 ≤ x1) (ge_x2 : n0 ≤ x2) :
    Con l Z (⟨"com/example/edgewise/edgewise/EdgeSlots", "compact", "([ILcom/example/edgewise/edgewise/Adjacency;Lcom/example/edgewise/edgewise/Adjacency;)V"⟩ : MethodName) prog_12_method_20_code 10 none ({ frames := 1, cells := 0, slots := 0, locals := 13 } : Room) #[(.ref a1), (.ref y1), .null, .null] h0 (Q_rm_compactB00 Z a1 y1 x1 x2 x7 kd x3 x4 x5 x6 g7 h0 n0) := by
  refine meet (y := (⟨"com/example/edgewise/edgewise/EdgeSlots", "compact", "([ILcom/example/edgewise/edgewise/Adjacency;Lcom/example/edgewise/edgewise/Adjacency;)V"⟩ : MethodName)) (Q := Q_rm_compactB00 Z a1 y1 x1 x2 x7 kd x3 x4 x5 x6 g7 h0 n0) (plainFor_of_name pn_com_example_edgewise_edgewise_EdgeSlots) (fun m => ef_rm_compactB00 m a1 y1) ?_
  intro p e s m below meth c T0 hx hby hml hZ hown hnm hret hlk X0 e0
  have N0 := Fr.nil n0
  have K0 := Keep.refl h0 [a1, x1, x2]
  refine g_aloadN X0 hx hby d11_0 (pc' := 1) rfl rfl rfl ?_
  refine g_getf X0 hx hby hZ hown (host := "") (Or.inl (wi hw 35 rfl)) Via.refl e0 P3 d11_1 (pc' := 4) rfl ?_
  intro T1 X1 e1
  refine g_aloadN X1 hx hby d11_4 (pc' := 5) rfl rfl rfl ?_
  refine g_getf X1 hx hby hZ hown (host := "") (Or.inl (wi hw 70 rfl)) Via.refl e1 P4 d11_5 (pc' := 8) rfl ?_
  intro T2 X2 e2
  refine g_isub X2 hx hby d11_8 (pc' := 9) rfl (z := (0 : Int32)) rfl ?_
  refine g_istore X2 hx hby d11_9 (pc' := 11) rfl (L' := #[.val (.ref a1), .val (.ref y1), .val .null, .val .null, .val (.int (0 : Int32)), .unset, .unset, .unset, .unset, .unset]) rfl ?_
  refine g_aloadN X2 hx hby d11_11 (pc' := 12) rfl rfl rfl ?_
  refine g_getf X2 hx hby hZ hown (host := "") (Or.inl (wi hw 26 rfl)) Via.refl e2 P5 d11_12 (pc' := 15) rfl ?_
  intro T3 X3 e3
  refine g_astore X3 hx hby d11_15 (pc' := 17) rfl rfl (L' := #[.val (.ref a1), .val (.ref y1), .val .null, .val .null, .val (.int (0 : Int32)), .val (.ref x7), .unset, .unset, .unset, .unset]) rfl ?_
  refine g_iload X3 hx hby d11_17 (pc' := 19) rfl rfl ?_
  have hc19 : ¬ ((0 : Int) < (0 : Int)) := by decide
  refine g_ifYes X3 hx hby d11_19 (pc' := 66) (flt (show ¬ ((0 : Int32) < (0 : Int32)) from fun q => hc19 (Int32.lt_iff_toInt_lt.mp q))).2.2.2 (by decide) (by decide) ?_
  refine g_iconst X3 hx hby d11_66 (pc' := 67) rfl (z := (0 : Int32)) rfl ?_
  refine g_istore X3 hx hby d11_67 (pc' := 69) rfl (L' := #[.val (.ref a1), .val (.ref y1), .val .null, .val .null, .val (.int (0 : Int32)), .val (.ref x7), .val (.int (0 : Int32)), .unset, .unset, .unset]) rfl ?_
  refine g_iconst X3 hx hby d11_69 (pc' := 70) rfl (z := (0 : Int32)) rfl ?_
  refine g_istore X3 hx hby d11_70 (pc' := 72) rfl (L' := #[.val (.ref a1), .val (.ref y1), .val .null, .val .null, .val (.int (0 : Int32)), .val (.ref x7), .val (.int (0 : Int32)), .val (.int (0 : Int32)), .unset, .unset]) rfl ?_
  refine g_iload X3 hx hby d11_72 (pc' := 74) rfl rfl ?_
  refine g_aloadN X3 hx hby d11_74 (pc' := 75) rfl rfl rfl ?_
  refine g_getf X3 hx hby hZ hown (host := "") (Or.inl (wi hw 35 rfl)) Via.refl e3 P3 d11_75 (pc' := 78) rfl ?_
  intro T4 X4 e4
  have hc78 : (0 : Int) < (3 : Int) := by decide
  refine g_icmpNo X4 hx hby d11_78 (pc' := 81) (tlt (show (0 : Int32) < (3 : Int32) from Int32.lt_iff_toInt_lt.mpr hc78)).2.1 rfl ?_
  refine g_aloadN X4 hx hby d11_81 (pc' := 82) rfl rfl rfl ?_
  refine g_getf X4 hx hby hZ hown (host := "") (Or.inl (wi hw 13 rfl)) Via.refl e4 P1 d11_82 (pc' := 85) rfl ?_
  intro T5 X5 e5
  refine g_iload X5 hx hby d11_85 (pc' := 87) rfl rfl ?_
  refine Go.iaload X5 hx hZ e5 P12 (k := 0) rfl (by decide) (v := (0 : Int32)) rfl (hb hby d11_87) (pc' := 88) rfl ?_
  refine g_iconst X5 hx hby d11_88 (pc' := 89) rfl (z := (-1 : Int32)) rfl ?_
  have hc89 : ¬ ((0 : Int) = (-1 : Int)) := by decide
  refine g_icmpYes X5 hx hby d11_89 (pc' := 95) (feq (show ¬ ((0 : Int32) = (-1 : Int32)) from fun q => hc89 (congrArg Int32.toInt q))).2 (by decide) (by decide) ?_
  refine g_aloadN X5 hx hby d11_95 (pc' := 96) rfl rfl rfl ?_
  refine g_aloadN X5 hx hby d11_96 (pc' := 97) rfl rfl rfl ?_
  refine g_getf X5 hx hby hZ hown (host := "") (Or.inl (wi hw 13 rfl)) Via.refl e5 P1 d11_97 (pc' := 100) rfl ?_
  intro T6 X6 e6
  refine g_iload X6 hx hby d11_100 (pc' := 102) rfl rfl ?_
  refine Go.iaload X6 hx hZ e6 P12 (k := 0) rfl (by decide) (v := (0 : Int32)) rfl (hb hby d11_102) (pc' := 103) rfl ?_
  refine Go.iaload X6 hx hZ e6 P15 (k := 0) rfl (by decide) (v := (0 : Int32)) rfl (hb hby d11_103) (pc' := 104) rfl ?_
  refine g_istore X6 hx hby d11_104 (pc' := 106) rfl (L' := #[.val (.ref a1), .val (.ref y1), .val .null, .val .null, .val (.int (0 : Int32)), .val (.ref x7), .val (.int (0 : Int32)), .val (.int (0 : Int32)), .val (.int (0 : Int32)), .unset]) rfl ?_
  refine g_aloadN X6 hx hby d11_106 (pc' := 107) rfl rfl rfl ?_
  refine g_aloadN X6 hx hby d11_107 (pc' := 108) rfl rfl rfl ?_
  refine g_getf X6 hx hby hZ hown (host := "") (Or.inl (wi hw 15 rfl)) Via.refl e6 P2 d11_108 (pc' := 111) rfl ?_
  intro T7 X7 e7
  refine g_iload X7 hx hby d11_111 (pc' := 113) rfl rfl ?_
  refine Go.iaload X7 hx hZ e7 P13 (k := 0) rfl (by decide) (v := (0 : Int32)) rfl (hb hby d11_113) (pc' := 114) rfl ?_
  refine Go.iaload X7 hx hZ e7 P15 (k := 0) rfl (by decide) (v := (0 : Int32)) rfl (hb hby d11_114) (pc' := 115) rfl ?_
  refine g_istore X7 hx hby d11_115 (pc' := 117) rfl (L' := #[.val (.ref a1), .val (.ref y1), .val .null, .val .null, .val (.int (0 : Int32)), .val (.ref x7), .val (.int (0 : Int32)), .val (.int (0 : Int32)), .val (.int (0 : Int32)), .val (.int (0 : Int32))]) rfl ?_
  refine g_iload X7 hx hby d11_117 (pc' := 119) rfl rfl ?_
  have hc119 : ¬ ((0 : Int) < (0 : Int)) := by decide
  refine g_ifYes X7 hx hby d11_119 (pc' := 141) (flt (show ¬ ((0 : Int32) < (0 : Int32)) from fun q => hc119 (Int32.lt_iff_toInt_lt.mp q))).2.2.2 (by decide) (by decide) ?_
  refine g_iload X7 hx hby d11_141 (pc' := 143) rfl rfl ?_
  refine g_iload X7 hx hby d11_143 (pc' := 145) rfl rfl ?_
  have hc145 : (0 : Int) = (0 : Int) := by decide
  refine g_icmpYes X7 hx hby d11_145 (pc' := 197) (teq (show (0 : Int32) = (0 : Int32) from Int32.toInt_inj.mp hc145)).1 (by decide) (by decide) ?_
  refine g_aloadN X7 hx hby d11_197 (pc' := 198) rfl rfl rfl ?_
  refine g_getf X7 hx hby hZ hown (host := "") (Or.inl (wi hw 13 rfl)) Via.refl e7 P1 d11_198 (pc' := 201) rfl ?_
  intro T8 X8 e8
  refine g_iload X8 hx hby d11_201 (pc' := 203) rfl rfl ?_
  refine g_iload X8 hx hby d11_203 (pc' := 205) rfl rfl ?_
  refine Go.iastore X8 hx hZ e8 P12 (k := 0) rfl (by decide) (hb hby d11_205) (pc' := 206) rfl ?_
  intro T9 h9 X9 e9 W9 V9
  refine g_aloadN X9 hx hby d11_206 (pc' := 207) rfl rfl rfl ?_
  have f10 := (P2.other W9 (Or.inl (Ne.symm ne_x1_a1)))
  refine g_getf X9 hx hby hZ hown (host := "") (Or.inl (wi hw 15 rfl)) Via.refl e9 f10 d11_207 (pc' := 210) rfl ?_
  intro T11 X11 e11
  refine g_iload X11 hx hby d11_210 (pc' := 212) rfl rfl ?_
  refine g_iload X11 hx hby d11_212 (pc' := 214) rfl rfl ?_
  have f12 := (P13.other W9 (Ne.symm ne_x1_x2))
  refine Go.iastore X11 hx hZ e11 f12 (k := 0) rfl (by decide) (hb hby d11_214) (pc' := 215) rfl ?_
  intro T13 h13 X13 e13 W13 V13
  refine g_iinc X13 hx hby d11_215 (pc' := 218) rfl rfl (L' := #[.val (.ref a1), .val (.ref y1), .val .null, .val .null, .val (.int (0 : Int32)), .val (.ref x7), .val (.int (1 : Int32)), .val (.int (0 : Int32)), .val (.int (0 : Int32)), .val (.int (0 : Int32))]) rfl ?_
  refine g_iinc X13 hx hby d11_218 (pc' := 221) rfl rfl (L' := #[.val (.ref a1), .val (.ref y1), .val .null, .val .null, .val (.int (0 : Int32)), .val (.ref x7), .val (.int (1 : Int32)), .val (.int (1 : Int32)), .val (.int (0 : Int32)), .val (.int (0 : Int32))]) rfl ?_
  refine g_goto X13 hx hby d11_221 (pc' := 72) (by decide) (by decide) ?_
  refine g_iload X13 hx hby d11_72 (pc' := 74) rfl rfl ?_
  refine g_aloadN X13 hx hby d11_74 (pc' := 75) rfl rfl rfl ?_
  have f14 := ((P3.other W9 (Or.inl (Ne.symm ne_x1_a1))).other W13 (Or.inl (Ne.symm ne_x2_a1)))
  refine g_getf X13 hx hby hZ hown (host := "") (Or.inl (wi hw 35 rfl)) Via.refl e13 f14 d11_75 (pc' := 78) rfl ?_
  intro T15 X15 e15
  have hc78 : (1 : Int) < (3 : Int) := by decide
  refine g_icmpNo X15 hx hby d11_78 (pc' := 81) (tlt (show (1 : Int32) < (3 : Int32) from Int32.lt_iff_toInt_lt.mpr hc78)).2.1 rfl ?_
  refine g_aloadN X15 hx hby d11_81 (pc' := 82) rfl rfl rfl ?_
  have f16 := ((P1.other W9 (Or.inl (Ne.symm ne_x1_a1))).other W13 (Or.inl (Ne.symm ne_x2_a1)))
  refine g_getf X15 hx hby hZ hown (host := "") (Or.inl (wi hw 13 rfl)) Via.refl e15 f16 d11_82 (pc' := 85) rfl ?_
  intro T17 X17 e17
  refine g_iload X17 hx hby d11_85 (pc' := 87) rfl rfl ?_
  have f18 := V9.other W13 ne_x1_x2
  refine Go.iaload X17 hx hZ e17 f18 (k := 1) rfl (by decide) (v := (0 : Int32)) rfl (hb hby d11_87) (pc' := 88) rfl ?_
  refine g_iconst X17 hx hby d11_88 (pc' := 89) rfl (z := (-1 : Int32)) rfl ?_
  have hc89 : ¬ ((0 : Int) = (-1 : Int)) := by decide
  refine g_icmpYes X17 hx hby d11_89 (pc' := 95) (feq (show ¬ ((0 : Int32) = (-1 : Int32)) from fun q => hc89 (congrArg Int32.toInt q))).2 (by decide) (by decide) ?_
  refine g_aloadN X17 hx hby d11_95 (pc' := 96) rfl rfl rfl ?_
  refine g_aloadN X17 hx hby d11_96 (pc' := 97) rfl rfl rfl ?_
  refine g_getf X17 hx hby hZ hown (host := "") (Or.inl (wi hw 13 rfl)) Via.refl e17 f16 d11_97 (pc' := 100) rfl ?_
  intro T19 X19 e19
  refine g_iload X19 hx hby d11_100 (pc' := 102) rfl rfl ?_
  refine Go.iaload X19 hx hZ e19 f18 (k := 1) rfl (by decide) (v := (0 : Int32)) rfl (hb hby d11_102) (pc' := 103) rfl ?_
  have f20 := ((P15.other W9 ne_y1_x1).other W13 ne_y1_x2)
  refine Go.iaload X19 hx hZ e19 f20 (k := 0) rfl (by decide) (v := (0 : Int32)) rfl (hb hby d11_103) (pc' := 104) rfl ?_
  refine g_istore X19 hx hby d11_104 (pc' := 106) rfl (L' := #[.val (.ref a1), .val (.ref y1), .val .null, .val .null, .val (.int (0 : Int32)), .val (.ref x7), .val (.int (1 : Int32)), .val (.int (1 : Int32)), .val (.int (0 : Int32)), .val (.int (0 : Int32))]) rfl ?_
  refine g_aloadN X19 hx hby d11_106 (pc' := 107) rfl rfl rfl ?_
  refine g_aloadN X19 hx hby d11_107 (pc' := 108) rfl rfl rfl ?_
  have f21 := (f10.other W13 (Or.inl (Ne.symm ne_x2_a1)))
  refine g_getf X19 hx hby hZ hown (host := "") (Or.inl (wi hw 15 rfl)) Via.refl e19 f21 d11_108 (pc' := 111) rfl ?_
  intro T22 X22 e22
  refine g_iload X22 hx hby d11_111 (pc' := 113) rfl rfl ?_
  refine Go.iaload X22 hx hZ e22 V13 (k := 1) rfl (by decide) (v := (0 : Int32)) rfl (hb hby d11_113) (pc' := 114) rfl ?_
  refine Go.iaload X22 hx hZ e22 f20 (k := 0) rfl (by decide) (v := (0 : Int32)) rfl (hb hby d11_114) (pc' := 115) rfl ?_
  refine g_istore X22 hx hby d11_115 (pc' := 117) rfl (L' := #[.val (.ref a1), .val (.ref y1), .val .null, .val .null, .val (.int (0 : Int32)), .val (.ref x7), .val (.int (1 : Int32)), .val (.int (1 : Int32)), .val (.int (0 : Int32)), .val (.int (0 : Int32))]) rfl ?_
  refine g_iload X22 hx hby d11_117 (pc' := 119) rfl rfl ?_
  have hc119 : ¬ ((0 : Int) < (0 : Int)) := by decide
  refine g_ifYes X22 hx hby d11_119 (pc' := 141) (flt (show ¬ ((0 : Int32) < (0 : Int32)) from fun q => hc119 (Int32.lt_iff_toInt_lt.mp q))).2.2.2 (by decide) (by decide) ?_
  refine g_iload X22 hx hby d11_141 (pc' := 143) rfl rfl ?_
  refine g_iload X22 hx hby d11_143 (pc' := 145) rfl rfl ?_
  have hc145 : (1 : Int) = (1 : Int) := by decide
  refine g_icmpYes X22 hx hby d11_145 (pc' := 197) (teq (show (1 : Int32) = (1 : Int32) from Int32.toInt_inj.mp hc145)).1 (by decide) (by decide) ?_
  refine g_aloadN X22 hx hby d11_197 (pc' := 198) rfl rfl rfl ?_
  refine g_getf X22 hx hby hZ hown (host := "") (Or.inl (wi hw 13 rfl)) Via.refl e22 f16 d11_198 (pc' := 201) rfl ?_
  intro T23 X23 e23
  refine g_iload X23 hx hby d11_201 (pc' := 203) rfl rfl ?_
  refine g_iload X23 hx hby d11_203 (pc' := 205) rfl rfl ?_
  refine Go.iastore X23 hx hZ e23 f18 (k := 1) rfl (by decide) (hb hby d11_205) (pc' := 206) rfl ?_
  intro T24 h24 X24 e24 W24 V24
  refine g_aloadN X24 hx hby d11_206 (pc' := 207) rfl rfl rfl ?_
  have f25 := (f21.other W24 (Or.inl (Ne.symm ne_x1_a1)))
  refine g_getf X24 hx hby hZ hown (host := "") (Or.inl (wi hw 15 rfl)) Via.refl e24 f25 d11_207 (pc' := 210) rfl ?_
  intro T26 X26 e26
  refine g_iload X26 hx hby d11_210 (pc' := 212) rfl rfl ?_
  refine g_iload X26 hx hby d11_212 (pc' := 214) rfl rfl ?_
  have f27 := (V13.other W24 (Ne.symm ne_x1_x2))
  refine Go.iastore X26 hx hZ e26 f27 (k := 1) rfl (by decide) (hb hby d11_214) (pc' := 215) rfl ?_
  intro T28 h28 X28 e28 W28 V28
  have z29 : n0 ≤ h28.size := (Nat.le_trans (Nat.le_trans (Nat.le_trans (Nat.le_trans Z0 (Nat.le_of_eq (Wr.size W9).symm)) (Nat.le_of_eq (Wr.size W13).symm)) (Nat.le_of_eq (Wr.size W24).symm)) (Nat.le_of_eq (Wr.size W28).symm))
  have K30 : Keep h0 h28 [a1, x1, x2] := ((((K0.wr W9 (Or.inl (List.mem_of_getElem? (i := 1) rfl))).wr W13 (Or.inl (List.mem_of_getElem? (i := 2) rfl))).wr W24 (Or.inl (List.mem_of_getElem? (i := 1) rfl))).wr W28 (Or.inl (List.mem_of_getElem? (i := 2) rfl)))
  refine g_iinc X28 hx hby d11_215 (pc' := 218) rfl rfl (L' := #[.val (.ref a1), .val (.ref y1), .val .null, .val .null, .val (.int (0 : Int32)), .val (.ref x7), .val (.int (2 : Int32)), .val (.int (1 : Int32)), .val (.int (0 : Int32)), .val (.int (0 : Int32))]) rfl ?_
  refine g_iinc X28 hx hby d11_218 (pc' := 221) rfl rfl (L' := #[.val (.ref a1), .val (.ref y1), .val .null, .val .null, .val (.int (0 : Int32)), .val (.ref x7), .val (.int (2 : Int32)), .val (.int (2 : Int32)), .val (.int (0 : Int32)), .val (.int (0 : Int32))]) rfl ?_
  refine g_goto X28 hx hby d11_221 (pc' := 72) (by decide) (by decide) ?_
  refine g_iload X28 hx hby d11_72 (pc' := 74) rfl rfl ?_
  refine g_aloadN X28 hx hby d11_74 (pc' := 75) rfl rfl rfl ?_
  have f31 := ((f14.other W24 (Or.inl (Ne.symm ne_x1_a1))).other W28 (Or.inl (Ne.symm ne_x2_a1)))
  refine g_getf X28 hx hby hZ hown (host := "") (Or.inl (wi hw 35 rfl)) Via.refl e28 f31 d11_75 (pc' := 78) rfl ?_
  intro T32 X32 e32
  have hc78 : (2 : Int) < (3 : Int) := by decide
  refine g_icmpNo X32 hx hby d11_78 (pc' := 81) (tlt (show (2 : Int32) < (3 : Int32) from Int32.lt_iff_toInt_lt.mpr hc78)).2.1 rfl ?_
  refine g_aloadN X32 hx hby d11_81 (pc' := 82) rfl rfl rfl ?_
  have f33 := ((f16.other W24 (Or.inl (Ne.symm ne_x1_a1))).other W28 (Or.inl (Ne.symm ne_x2_a1)))
  refine g_getf X32 hx hby hZ hown (host := "") (Or.inl (wi hw 13 rfl)) Via.refl e32 f33 d11_82 (pc' := 85) rfl ?_
  intro T34 X34 e34
  refine g_iload X34 hx hby d11_85 (pc' := 87) rfl rfl ?_
  have f35 := V24.other W28 ne_x1_x2
  refine Go.iaload X34 hx hZ e34 f35 (k := 2) rfl (by decide) (v := (0 : Int32)) rfl (hb hby d11_87) (pc' := 88) rfl ?_
  refine g_iconst X34 hx hby d11_88 (pc' := 89) rfl (z := (-1 : Int32)) rfl ?_
  have hc89 : ¬ ((0 : Int) = (-1 : Int)) := by decide
  refine g_icmpYes X34 hx hby d11_89 (pc' := 95) (feq (show ¬ ((0 : Int32) = (-1 : Int32)) from fun q => hc89 (congrArg Int32.toInt q))).2 (by decide) (by decide) ?_
  refine g_aloadN X34 hx hby d11_95 (pc' := 96) rfl rfl rfl ?_
  refine g_aloadN X34 hx hby d11_96 (pc' := 97) rfl rfl rfl ?_
  refine g_getf X34 hx hby hZ hown (host := "") (Or.inl (wi hw 13 rfl)) Via.refl e34 f33 d11_97 (pc' := 100) rfl ?_
  intro T36 X36 e36
  refine g_iload X36 hx hby d11_100 (pc' := 102) rfl rfl ?_
  refine Go.iaload X36 hx hZ e36 f35 (k := 2) rfl (by decide) (v := (0 : Int32)) rfl (hb hby d11_102) (pc' := 103) rfl ?_
  have f37 := ((f20.other W24 ne_y1_x1).other W28 ne_y1_x2)
  refine Go.iaload X36 hx hZ e36 f37 (k := 0) rfl (by decide) (v := (0 : Int32)) rfl (hb hby d11_103) (pc' := 104) rfl ?_
  refine g_istore X36 hx hby d11_104 (pc' := 106) rfl (L' := #[.val (.ref a1), .val (.ref y1), .val .null, .val .null, .val (.int (0 : Int32)), .val (.ref x7), .val (.int (2 : Int32)), .val (.int (2 : Int32)), .val (.int (0 : Int32)), .val (.int (0 : Int32))]) rfl ?_
  refine g_aloadN X36 hx hby d11_106 (pc' := 107) rfl rfl rfl ?_
  refine g_aloadN X36 hx hby d11_107 (pc' := 108) rfl rfl rfl ?_
  have f38 := (f25.other W28 (Or.inl (Ne.symm ne_x2_a1)))
  refine g_getf X36 hx hby hZ hown (host := "") (Or.inl (wi hw 15 rfl)) Via.refl e36 f38 d11_108 (pc' := 111) rfl ?_
  intro T39 X39 e39
  refine g_iload X39 hx hby d11_111 (pc' := 113) rfl rfl ?_
  refine Go.iaload X39 hx hZ e39 V28 (k := 2) rfl (by decide) (v := (0 : Int32)) rfl (hb hby d11_113) (pc' := 114) rfl ?_
  refine Go.iaload X39 hx hZ e39 f37 (k := 0) rfl (by decide) (v := (0 : Int32)) rfl (hb hby d11_114) (pc' := 115) rfl ?_
  refine g_istore X39 hx hby d11_115 (pc' := 117) rfl (L' := #[.val (.ref a1), .val (.ref y1), .val .null, .val .null, .val (.int (0 : Int32)), .val (.ref x7), .val (.int (2 : Int32)), .val (.int (2 : Int32)), .val (.int (0 : Int32)), .val (.int (0 : Int32))]) rfl ?_
  refine g_iload X39 hx hby d11_117 (pc' := 119) rfl rfl ?_
  have hc119 : ¬ ((0 : Int) < (0 : Int)) := by decide
  refine g_ifYes X39 hx hby d11_119 (pc' := 141) (flt (show ¬ ((0 : Int32) < (0 : Int32)) from fun q => hc119 (Int32.lt_iff_toInt_lt.mp q))).2.2.2 (by decide) (by decide) ?_
  refine g_iload X39 hx hby d11_141 (pc' := 143) rfl rfl ?_
  refine g_iload X39 hx hby d11_143 (pc' := 145) rfl rfl ?_
  have hc145 : (2 : Int) = (2 : Int) := by decide
  refine g_icmpYes X39 hx hby d11_145 (pc' := 197) (teq (show (2 : Int32) = (2 : Int32) from Int32.toInt_inj.mp hc145)).1 (by decide) (by decide) ?_
  refine g_aloadN X39 hx hby d11_197 (pc' := 198) rfl rfl rfl ?_
  refine g_getf X39 hx hby hZ hown (host := "") (Or.inl (wi hw 13 rfl)) Via.refl e39 f33 d11_198 (pc' := 201) rfl ?_
  intro T40 X40 e40
  refine g_iload X40 hx hby d11_201 (pc' := 203) rfl rfl ?_
  refine g_iload X40 hx hby d11_203 (pc' := 205) rfl rfl ?_
  refine Go.iastore X40 hx hZ e40 f35 (k := 2) rfl (by decide) (hb hby d11_205) (pc' := 206) rfl ?_
  intro T41 h41 X41 e41 W41 V41
  refine g_aloadN X41 hx hby d11_206 (pc' := 207) rfl rfl rfl ?_
  have f42 := (f38.other W41 (Or.inl (Ne.symm ne_x1_a1)))
  refine g_getf X41 hx hby hZ hown (host := "") (Or.inl (wi hw 15 rfl)) Via.refl e41 f42 d11_207 (pc' := 210) rfl ?_
  intro T43 X43 e43
  refine g_iload X43 hx hby d11_210 (pc' := 212) rfl rfl ?_
  refine g_iload X43 hx hby d11_212 (pc' := 214) rfl rfl ?_
  have f44 := (V28.other W41 (Ne.symm ne_x1_x2))
  refine Go.iastore X43 hx hZ e43 f44 (k := 2) rfl (by decide) (hb hby d11_214) (pc' := 215) rfl ?_
  intro T45 h45 X45 e45 W45 V45
  have N45 := (Fr.snoc X45 (Fr.snoc X41 (Fr.snoc X28 (Fr.snoc X24 (Fr.snoc X13 (Fr.snoc X9 N0 ge_x1) ge_x2) ge_x1) ge_x2) ge_x1) ge_x2)
  refine g_iinc X45 hx hby d11_215 (pc' := 218) rfl rfl (L' := #[.val (.ref a1), .val (.ref y1), .val .null, .val .null, .val (.int (0 : Int32)), .val (.ref x7), .val (.int (3 : Int32)), .val (.int (2 : Int32)), .val (.int (0 : Int32)), .val (.int (0 : Int32))]) rfl ?_
  refine g_iinc X45 hx hby d11_218 (pc' := 221) rfl rfl (L' := #[.val (.ref a1), .val (.ref y1), .val .null, .val .null, .val (.int (0 : Int32)), .val (.ref x7), .val (.int (3 : Int32)), .val (.int (3 : Int32)), .val (.int (0 : Int32)), .val (.int (0 : Int32))]) rfl ?_
  refine g_goto X45 hx hby d11_221 (pc' := 72) (by decide) (by decide) ?_
  refine g_iload X45 hx hby d11_72 (pc' := 74) rfl rfl ?_
  refine g_aloadN X45 hx hby d11_74 (pc' := 75) rfl rfl rfl ?_
  have f46 := ((f31.other W41 (Or.inl (Ne.symm ne_x1_a1))).other W45 (Or.inl (Ne.symm ne_x2_a1)))
  refine g_getf X45 hx hby hZ hown (host := "") (Or.inl (wi hw 35 rfl)) Via.refl e45 f46 d11_75 (pc' := 78) rfl ?_
  intro T47 X47 e47
  have hc78 : ¬ ((3 : Int) < (3 : Int)) := by decide
  refine g_icmpYes X47 hx hby d11_78 (pc' := 224) (flt (show ¬ ((3 : Int32) < (3 : Int32)) from fun q => hc78 (Int32.lt_iff_toInt_lt.mp q))).2.1 (by decide) (by decide) ?_
  refine g_aloadN X47 hx hby d11_224 (pc' := 225) rfl rfl rfl ?_
  refine g_aload X47 hx hby d11_225 (pc' := 227) rfl rfl rfl ?_
  have f48 := ((((((P5.other W9 (Or.inl (Ne.symm ne_x1_a1))).other W13 (Or.inl (Ne.symm ne_x2_a1))).other W24 (Or.inl (Ne.symm ne_x1_a1))).other W28 (Or.inl (Ne.symm ne_x2_a1))).other W41 (Or.inl (Ne.symm ne_x1_a1))).other W45 (Or.inl (Ne.symm ne_x2_a1)))
  have f49 := ((((((P0.wr W9).wr W13).wr W24).wr W28).wr W41).wr W45)
  refine g_putf X47 hx hby hZ hown (host := "") (Or.inl (wi hw 26 rfl)) Via.refl e47 f48 f49 (Or.inl (wi hw 27 rfl)) (wi hw 5 rfl) (ty := (.array .long)) (by decide) rfl rfl d11_227 (pc' := 230) rfl ?_
  intro T50 h50 X50 e50 W50 F50
  refine g_aloadN X50 hx hby d11_230 (pc' := 231) rfl rfl rfl ?_
  refine g_iload X50 hx hby d11_231 (pc' := 233) rfl rfl ?_
  have f51 := (f46.other W50 (Or.inr (sn62 hw)))
  have f52 := f49.wr W50
  refine g_putf X50 hx hby hZ hown (host := "") (Or.inl (wi hw 35 rfl)) Via.refl e50 f51 f52 (Or.inl (wi hw 36 rfl)) (wi hw 5 rfl) (ty := .int) (by decide) rfl rfl d11_233 (pc' := 236) rfl ?_
  intro T53 h53 X53 e53 W53 F53
  have z54 : n0 ≤ h53.size := (Nat.le_trans (Nat.le_trans (Nat.le_trans (Nat.le_trans z29 (Nat.le_of_eq (Wr.size W41).symm)) (Nat.le_of_eq (Wr.size W45).symm)) (Nat.le_of_eq (Wr.size W50).symm)) (Nat.le_of_eq (Wr.size W53).symm))
  have K55 : Keep h0 h53 [a1, x1, x2] := ((((K30.wr W41 (Or.inl (List.mem_of_getElem? (i := 1) rfl))).wr W45 (Or.inl (List.mem_of_getElem? (i := 2) rfl))).wr W50 (Or.inl (List.mem_of_getElem? (i := 0) rfl))).wr W53 (Or.inl (List.mem_of_getElem? (i := 0) rfl)))
  refine g_aloadN X53 hx hby d11_236 (pc' := 237) rfl rfl rfl ?_
  have f56 := ((((f33.other W41 (Or.inl (Ne.symm ne_x1_a1))).other W45 (Or.inl (Ne.symm ne_x2_a1))).other W50 (Or.inr (sn33 hw))).other W53 (Or.inr (sn83 hw)))
  refine g_getf X53 hx hby hZ hown (host := "") (Or.inl (wi hw 13 rfl)) Via.refl e53 f56 d11_237 (pc' := 240) rfl ?_
  intro T57 X57 e57
  have f58 := (((V41.other W45 ne_x1_x2).other W50 ne_x1_a1).other W53 ne_x1_a1)
  refine Go.alen X57 hx hZ e57 f58 (z := (4 : Int32)) rfl (hb hby d11_240) (pc' := 241) rfl ?_
  refine g_aloadN X57 hx hby d11_241 (pc' := 242) rfl rfl rfl ?_
  refine g_getf X57 hx hby hZ hown (host := "") (Or.inl (wi hw 35 rfl)) Via.refl e57 F53 d11_242 (pc' := 245) rfl ?_
  intro T59 X59 e59
  refine Go.callS X59 hx hZ hown (wi hw 79 rfl) (wi hw 80 rfl) (wi hw 39 rfl) (wi hw 81 rfl) (by decide) e59 (argsL := [(.int (4 : Int32)), (.int (3 : Int32))]) (rest := []) (W := 0) (rm_trim l Z a0 hw (3 : Int32) h53 n0 z54 ) (hb hby d11_245) (by rw [hml]; rfl) rfl pd1 rfl rfl (by decide) (by decide) (by decide) (by decide) ?_
  intro v60 T60 L60 X60 hQ60
  obtain ⟨rfl, Nq60, hh60⟩ := hQ60
  have N60 := Fr.app (Fr.snoc X53 (Fr.snoc X50 N45 ge_a1) ge_a1) Nq60
  refine Go.push (pc' := 248) rfl ?_
  refine g_istore X60 hx hby d11_248 (pc' := 250) rfl (L' := #[.val (.ref a1), .val (.ref y1), .val .null, .val .null, .val (.int (0 : Int32)), .val (.ref x7), .val (.int (3 : Int32)), .val (.int (4 : Int32)), .val (.int (0 : Int32)), .val (.int (0 : Int32))]) rfl ?_
  refine g_iload X60 hx hby d11_250 (pc' := 252) rfl rfl ?_
  refine g_aloadN X60 hx hby d11_252 (pc' := 253) rfl rfl rfl ?_
  refine g_getf X60 hx hby hZ hown (host := "") (Or.inl (wi hw 13 rfl)) Via.refl hh60 f56 d11_253 (pc' := 256) rfl ?_
  intro T61 X61 e61
  refine Go.alen X61 hx hZ e61 f58 (z := (4 : Int32)) rfl (hb hby d11_256) (pc' := 257) rfl ?_
  have hc257 : ¬ ((4 : Int) < (4 : Int)) := by decide
  refine g_icmpYes X61 hx hby d11_257 (pc' := 266) (flt (show ¬ ((4 : Int32) < (4 : Int32)) from fun q => hc257 (Int32.lt_iff_toInt_lt.mp q))).2.1 (by decide) (by decide) ?_
  refine Go.retV X61 hx hlk hret (hb hby d11_266) rfl (by decide) (by decide) ?_
  have V62 : ArF Z h53 x1 .int 4 (fun i => .int ((own_l [(0 : Int32), (0 : Int32), (0 : Int32), (0 : Int32)]) i)) := f58.congr (fun i hi => congrArg Value.int ((by decide : ∀ i, i < 4 → (own_l [(0 : Int32), (0 : Int32), (0 : Int32), (0 : Int32)]) i = (upI (upI (upI (own_l [(0 : Int32), (0 : Int32), (0 : Int32), (0 : Int32)]) 0 (0 : Int32)) 1 (0 : Int32)) 2 (0 : Int32)) i) i hi))
  have f63 := ((V45.other W50 ne_x2_a1).other W53 ne_x2_a1)
  have V64 : ArF Z h53 x2 .int 4 (fun i => .int ((own_l [(0 : Int32), (0 : Int32), (0 : Int32), (0 : Int32)]) i)) := f63.congr (fun i hi => congrArg Value.int ((by decide : ∀ i, i < 4 → (own_l [(0 : Int32), (0 : Int32), (0 : Int32), (0 : Int32)]) i = (upI (upI (upI (own_l [(0 : Int32), (0 : Int32), (0 : Int32), (0 : Int32)]) 0 (0 : Int32)) 1 (0 : Int32)) 2 (0 : Int32)) i) i hi))
  rw [e61]
  have f65 := (((f42.other W45 (Or.inl (Ne.symm ne_x2_a1))).other W50 (Or.inr (sn39 hw))).other W53 (Or.inr (sn86 hw)))
  have f66 := ((((((((P4.other W9 (Or.inl (Ne.symm ne_x1_a1))).other W13 (Or.inl (Ne.symm ne_x2_a1))).other W24 (Or.inl (Ne.symm ne_x1_a1))).other W28 (Or.inl (Ne.symm ne_x2_a1))).other W41 (Or.inl (Ne.symm ne_x1_a1))).other W45 (Or.inl (Ne.symm ne_x2_a1))).other W50 (Or.inr (sn70 hw))).other W53 (Or.inr (sn80 hw)))
  have f67 := (F50.other W53 (Or.inr (sn101 hw)))
  have f68 := ((((((((P6.other W9 (Or.inl (Ne.symm ne_x1_a1))).other W13 (Or.inl (Ne.symm ne_x2_a1))).other W24 (Or.inl (Ne.symm ne_x1_a1))).other W28 (Or.inl (Ne.symm ne_x2_a1))).other W41 (Or.inl (Ne.symm ne_x1_a1))).other W45 (Or.inl (Ne.symm ne_x2_a1))).other W50 (Or.inr (sn78 hw))).other W53 (Or.inr (sn81 hw)))
  have f69 := ((((((((P7.other W9 (Or.inl (Ne.symm ne_x1_a1))).other W13 (Or.inl (Ne.symm ne_x2_a1))).other W24 (Or.inl (Ne.symm ne_x1_a1))).other W28 (Or.inl (Ne.symm ne_x2_a1))).other W41 (Or.inl (Ne.symm ne_x1_a1))).other W45 (Or.inl (Ne.symm ne_x2_a1))).other W50 (Or.inr (sn27 hw))).other W53 (Or.inr (sn98 hw)))
  have f70 := ((((((((P8.other W9 (Or.inl (Ne.symm ne_x1_a1))).other W13 (Or.inl (Ne.symm ne_x2_a1))).other W24 (Or.inl (Ne.symm ne_x1_a1))).other W28 (Or.inl (Ne.symm ne_x2_a1))).other W41 (Or.inl (Ne.symm ne_x1_a1))).other W45 (Or.inl (Ne.symm ne_x2_a1))).other W50 (Or.inr (sn44 hw))).other W53 (Or.inr (sn89 hw)))
  have f71 := ((((((((P9.other W9 (Or.inl (Ne.symm ne_x1_a1))).other W13 (Or.inl (Ne.symm ne_x2_a1))).other W24 (Or.inl (Ne.symm ne_x1_a1))).other W28 (Or.inl (Ne.symm ne_x2_a1))).other W41 (Or.inl (Ne.symm ne_x1_a1))).other W45 (Or.inl (Ne.symm ne_x2_a1))).other W50 (Or.inr (sn48 hw))).other W53 (Or.inr (sn92 hw)))
  have f72 := ((((((((P10.other W9 (Or.inl (Ne.symm ne_x1_a1))).other W13 (Or.inl (Ne.symm ne_x2_a1))).other W24 (Or.inl (Ne.symm ne_x1_a1))).other W28 (Or.inl (Ne.symm ne_x2_a1))).other W41 (Or.inl (Ne.symm ne_x1_a1))).other W45 (Or.inl (Ne.symm ne_x2_a1))).other W50 (Or.inr (sn51 hw))).other W53 (Or.inr (sn95 hw)))
  have f73 := ((((((((P11.other W9 (Or.inl (Ne.symm ne_x1_a1))).other W13 (Or.inl (Ne.symm ne_x2_a1))).other W24 (Or.inl (Ne.symm ne_x1_a1))).other W28 (Or.inl (Ne.symm ne_x2_a1))).other W41 (Or.inl (Ne.symm ne_x1_a1))).other W45 (Or.inl (Ne.symm ne_x2_a1))).other W50 (Or.inr (sn53 hw))).other W53 (Or.inr (sn104 hw)))
  exact ⟨rfl, N60, K55, f56, f65, F53, f66, f67, f68, f69, f70, f71, f72, f73, V62, V64⟩
theorem d11_22 : decode prog_12_method_20_code 22 = .ok (.aload_n 0, 1) := by decide +kernel
theorem d11_23 : decode prog_12_method_20_code 23 = .ok (.getfield 37, 3) := by decide +kernel
theorem d11_26 : decode prog_12_method_20_code 26 = .ok (.iconst 1, 1) := by decide +kernel
theorem d11_27 : decode prog_12_method_20_code 27 = .ok (.isub, 1) := by decide +kernel
theorem d11_28 : decode prog_12_method_20_code 28 = .ok (.istore 6, 2) := by decide +kernel
theorem d11_30 : decode prog_12_method_20_code 30 = .ok (.aload_n 0, 1) := by decide +kernel
theorem d11_31 : decode prog_12_method_20_code 31 = .ok (.getfield 7, 3) := by decide +kernel
theorem d11_34 : decode prog_12_method_20_code 34 = .ok (.iload 6, 2) := by decide +kernel
theorem d11_36 : decode prog_12_method_20_code 36 = .ok (.iaload, 1) := by decide +kernel
theorem d11_37 : decode prog_12_method_20_code 37 = .ok (.iconst (-1), 1) := by decide +kernel
theorem d11_38 : decode prog_12_method_20_code 38 = .ok (.if_icmp .eq 9, 3) := by decide +kernel
theorem d11_47 : decode prog_12_method_20_code 47 = .ok (.iload 6, 2) := by decide +kernel
theorem d11_49 : decode prog_12_method_20_code 49 = .ok (.iconst 1, 1) := by decide +kernel
theorem d11_50 : decode prog_12_method_20_code 50 = .ok (.iadd, 1) := by decide +kernel
theorem d11_51 : decode prog_12_method_20_code 51 = .ok (.aload_n 0, 1) := by decide +kernel
theorem d11_52 : decode prog_12_method_20_code 52 = .ok (.getfield 29, 3) := by decide +kernel
theorem d11_55 : decode prog_12_method_20_code 55 = .ok (.arraylength, 1) := by decide +kernel
theorem d11_56 : decode prog_12_method_20_code 56 = .ok (.invokestatic 64, 3) := by decide +kernel
theorem d11_59 : decode prog_12_method_20_code 59 = .ok (.iload 4, 2) := by decide +kernel
theorem d11_61 : decode prog_12_method_20_code 61 = .ok (.isub, 1) := by decide +kernel
theorem d11_62 : decode prog_12_method_20_code 62 = .ok (.newarray .long, 2) := by decide +kernel
theorem d11_64 : decode prog_12_method_20_code 64 = .ok (.astore 5, 2) := by decide +kernel
theorem d11_122 : decode prog_12_method_20_code 122 = .ok (.iload 6, 2) := by decide +kernel
theorem d11_124 : decode prog_12_method_20_code 124 = .ok (.aload 5, 2) := by decide +kernel
theorem d11_126 : decode prog_12_method_20_code 126 = .ok (.arraylength, 1) := by decide +kernel
theorem d11_127 : decode prog_12_method_20_code 127 = .ok (.if_icmp .ge 14, 3) := by decide +kernel
theorem d11_130 : decode prog_12_method_20_code 130 = .ok (.aload 5, 2) := by decide +kernel
theorem d11_132 : decode prog_12_method_20_code 132 = .ok (.iload 6, 2) := by decide +kernel
theorem d11_134 : decode prog_12_method_20_code 134 = .ok (.aload_n 0, 1) := by decide +kernel
theorem d11_135 : decode prog_12_method_20_code 135 = .ok (.iload 7, 2) := by decide +kernel
theorem d11_137 : decode prog_12_method_20_code 137 = .ok (.invokevirtual 70, 3) := by decide +kernel
theorem pd6 : parseMethodDescriptor "(I)J" = some ⟨[.int], some .long⟩ := by decide +kernel
theorem d11_140 : decode prog_12_method_20_code 140 = .ok (.lastore, 1) := by decide +kernel
theorem d11_92 : decode prog_12_method_20_code 92 = .ok (.goto 126, 3) := by decide +kernel
theorem ef_rm_compactB01 (m : MethodId) (x0 : Addr) (x1 : Addr) : entryFrame m #[(.ref x0), (.ref x1), .null, .null] 10 = mkF m 0 #[.val (.ref x0), .val (.ref x1), .val .null, .val .null, .unset, .unset, .unset, .unset, .unset, .unset] [] := by first | (simp [entryFrame, mkF, argsToLocals, Value.category]; done) | rfl
abbrev Q_rm_compactB01 (Z : State) (a1 : Addr) (y1 : Addr) (x1 : Addr) (x2 : Addr) (x7 : Addr) (kd : Int32) (x3 : Addr) (x4 : Addr) (x5 : Addr) (x6 : Addr) (g7 : Nat → Int64) (h0 : Heap) (n0 : Nat) : Option Value → Heap → List Loc → Prop := fun v h L => ∃ (b1 : Addr), v = none ∧ Fr n0 L ∧ Keep h0 h [a1, x1, x2] ∧ n0 ≤ b1 ∧ h0.size ≤ b1 ∧ Fld Z h a1 kES "sources" "[I" (.ref x1) ∧ Fld Z h a1 kES "targets" "[I" (.ref x2) ∧ Fld Z h a1 kES "bound" "I" (.int (2 : Int32)) ∧ Fld Z h a1 kES "count" "I" (.int (2 : Int32)) ∧ Fld Z h a1 kES "keptNumbers" "[J" (.ref b1) ∧ Fld Z h a1 kES "nextNumber" "J" (.long (3 : Int64)) ∧ Fld Z h a1 kES "keyed" "Z" (.int kd) ∧ Fld Z h a1 kES "sourcePositions" "[I" (.ref x3) ∧ Fld Z h a1 kES "targetPositions" "[I" (.ref x4) ∧ Fld Z h a1 kES "weights" "[D" (.ref x5) ∧ Fld Z h a1 kES "keys" "[I" (.ref x6) ∧ ArF Z h x1 .int 4 (fun i => .int ((own_l [(0 : Int32), (0 : Int32), (-1 : Int32), (0 : Int32)]) i)) ∧ ArF Z h x2 .int 4 (fun i => .int ((own_l [(0 : Int32), (0 : Int32), (-1 : Int32), (0 : Int32)]) i)) ∧ ArF Z h b1 .long 2 (fun i => .long ((own_lj [(0 : Int64), (1 : Int64)]) i))
set_option maxRecDepth 65536 in
set_option maxHeartbeats 40000000 in
theorem rm_compactB01 (l : Launch) (Z : State) (a0 : Array Value) (hw : ∀ d ∈ tables_1, d.before a0 Z = true) (a1 : Addr) (y1 : Addr) (x1 : Addr) (x2 : Addr) (x7 : Addr) (kd : Int32) (x3 : Addr) (x4 : Addr) (x5 : Addr) (x6 : Addr) (g7 : Nat → Int64) (h0 : Heap) (n0 : Nat) (Z0 : n0 ≤ h0.size) (P0 : Exa Z h0 a1 kES) (P1 : Fld Z h0 a1 kES "sources" "[I" (.ref x1)) (P2 : Fld Z h0 a1 kES "targets" "[I" (.ref x2)) (P3 : Fld Z h0 a1 kES "bound" "I" (.int (3 : Int32))) (P4 : Fld Z h0 a1 kES "count" "I" (.int (2 : Int32))) (P5 : Fld Z h0 a1 kES "keptNumbers" "[J" (.ref x7)) (P6 : Fld Z h0 a1 kES "nextNumber" "J" (.long (3 : Int64))) (P7 : Fld Z h0 a1 kES "keyed" "Z" (.int kd)) (P8 : Fld Z h0 a1 kES "sourcePositions" "[I" (.ref x3)) (P9 : Fld Z h0 a1 kES "targetPositions" "[I" (.ref x4)) (P10 : Fld Z h0 a1 kES "weights" "[D" (.ref x5)) (P11 : Fld Z h0 a1 kES "keys" "[I" (.ref x6)) (P12 : ArF Z h0 x1 .int 4 (fun i => .int ((own_l [(0 : Int32), (0 : Int32), (-1 : Int32), (0 : Int32)]) i))) (P13 : ArF Z h0 x2 .int 4 (fun i => .int ((own_l [(0 : Int32), (0 : Int32), (-1 : Int32), (0 : Int32)]) i))) (P14 : ArF Z h0 x7 .long 0 (fun i => .long (g7 i))) (P15 : ArF Z h0 y1 .int 1 (fun i => .int ((own_l [(0 : Int32)]) i))) (ne_x1_a1 : x1 ≠ a1) (ne_x2_a1 : x2 ≠ a1) (ne_x1_x2 : x1 ≠ x2) (ne_x7_a1 : x7 ≠ a1) (ne_x7_x1 : x7 ≠ x1) (ne_x7_x2 : x7 ≠ x2) (ne_y1_a1 : y1 ≠ a1) (ne_y1_x1 : y1 ≠ x1) (ne_y1_x2 : y1 ≠ x2) (ge_a1 : n0 ≤ a1) (ge_x1 : n0 ≤ x1) (ge_x2 : n0 ≤ x2) :
    Con l Z (⟨"com/example/edgewise/edgewise/EdgeSlots", "compact", "([ILcom/example/edgewise/edgewise/Adjacency;Lcom/example/edgewise/edgewise/Adjacency;)V"⟩ : MethodName) prog_12_method_20_code 10 none ({ frames := 1, cells := 1, slots := 2, locals := 15 } : Room) #[(.ref a1), (.ref y1), .null, .null] h0 (Q_rm_compactB01 Z a1 y1 x1 x2 x7 kd x3 x4 x5 x6 g7 h0 n0) := by
  refine meet (y := (⟨"com/example/edgewise/edgewise/EdgeSlots", "compact", "([ILcom/example/edgewise/edgewise/Adjacency;Lcom/example/edgewise/edgewise/Adjacency;)V"⟩ : MethodName)) (Q := Q_rm_compactB01 Z a1 y1 x1 x2 x7 kd x3 x4 x5 x6 g7 h0 n0) (plainFor_of_name pn_com_example_edgewise_edgewise_EdgeSlots) (fun m => ef_rm_compactB01 m a1 y1) ?_
  intro p e s m below meth c T0 hx hby hml hZ hown hnm hret hlk X0 e0
  have N0 := Fr.nil n0
  have K0 := Keep.refl h0 [a1, x1, x2]
  refine g_aloadN X0 hx hby d11_0 (pc' := 1) rfl rfl rfl ?_
  refine g_getf X0 hx hby hZ hown (host := "") (Or.inl (wi hw 35 rfl)) Via.refl e0 P3 d11_1 (pc' := 4) rfl ?_
  intro T1 X1 e1
  refine g_aloadN X1 hx hby d11_4 (pc' := 5) rfl rfl rfl ?_
  refine g_getf X1 hx hby hZ hown (host := "") (Or.inl (wi hw 70 rfl)) Via.refl e1 P4 d11_5 (pc' := 8) rfl ?_
  intro T2 X2 e2
  refine g_isub X2 hx hby d11_8 (pc' := 9) rfl (z := (1 : Int32)) rfl ?_
  refine g_istore X2 hx hby d11_9 (pc' := 11) rfl (L' := #[.val (.ref a1), .val (.ref y1), .val .null, .val .null, .val (.int (1 : Int32)), .unset, .unset, .unset, .unset, .unset]) rfl ?_
  refine g_aloadN X2 hx hby d11_11 (pc' := 12) rfl rfl rfl ?_
  refine g_getf X2 hx hby hZ hown (host := "") (Or.inl (wi hw 26 rfl)) Via.refl e2 P5 d11_12 (pc' := 15) rfl ?_
  intro T3 X3 e3
  refine g_astore X3 hx hby d11_15 (pc' := 17) rfl rfl (L' := #[.val (.ref a1), .val (.ref y1), .val .null, .val .null, .val (.int (1 : Int32)), .val (.ref x7), .unset, .unset, .unset, .unset]) rfl ?_
  refine g_iload X3 hx hby d11_17 (pc' := 19) rfl rfl ?_
  have hc19 : (0 : Int) < (1 : Int) := by decide
  refine g_ifNo X3 hx hby d11_19 (pc' := 22) (tlt (show (0 : Int32) < (1 : Int32) from Int32.lt_iff_toInt_lt.mpr hc19)).2.2.2 rfl ?_
  refine g_aloadN X3 hx hby d11_22 (pc' := 23) rfl rfl rfl ?_
  refine g_getf X3 hx hby hZ hown (host := "") (Or.inl (wi hw 35 rfl)) Via.refl e3 P3 d11_23 (pc' := 26) rfl ?_
  intro T4 X4 e4
  refine g_iconst X4 hx hby d11_26 (pc' := 27) rfl (z := (1 : Int32)) rfl ?_
  refine g_isub X4 hx hby d11_27 (pc' := 28) rfl (z := (2 : Int32)) rfl ?_
  refine g_istore X4 hx hby d11_28 (pc' := 30) rfl (L' := #[.val (.ref a1), .val (.ref y1), .val .null, .val .null, .val (.int (1 : Int32)), .val (.ref x7), .val (.int (2 : Int32)), .unset, .unset, .unset]) rfl ?_
  refine g_aloadN X4 hx hby d11_30 (pc' := 31) rfl rfl rfl ?_
  refine g_getf X4 hx hby hZ hown (host := "") (Or.inl (wi hw 13 rfl)) Via.refl e4 P1 d11_31 (pc' := 34) rfl ?_
  intro T5 X5 e5
  refine g_iload X5 hx hby d11_34 (pc' := 36) rfl rfl ?_
  refine Go.iaload X5 hx hZ e5 P12 (k := 2) rfl (by decide) (v := (-1 : Int32)) rfl (hb hby d11_36) (pc' := 37) rfl ?_
  refine g_iconst X5 hx hby d11_37 (pc' := 38) rfl (z := (-1 : Int32)) rfl ?_
  have hc38 : (-1 : Int) = (-1 : Int) := by decide
  refine g_icmpYes X5 hx hby d11_38 (pc' := 47) (teq (show (-1 : Int32) = (-1 : Int32) from Int32.toInt_inj.mp hc38)).1 (by decide) (by decide) ?_
  refine g_iload X5 hx hby d11_47 (pc' := 49) rfl rfl ?_
  refine g_iconst X5 hx hby d11_49 (pc' := 50) rfl (z := (1 : Int32)) rfl ?_
  refine g_iadd X5 hx hby d11_50 (pc' := 51) rfl (z := (3 : Int32)) rfl ?_
  refine g_aloadN X5 hx hby d11_51 (pc' := 52) rfl rfl rfl ?_
  refine g_getf X5 hx hby hZ hown (host := "") (Or.inl (wi hw 26 rfl)) Via.refl e5 P5 d11_52 (pc' := 55) rfl ?_
  intro T6 X6 e6
  refine Go.alen X6 hx hZ e6 P14 (z := (0 : Int32)) rfl (hb hby d11_55) (pc' := 56) rfl ?_
  refine Go.callS X6 hx hZ hown (wi hw 92 rfl) (wi hw 93 rfl) (wi hw 47 rfl) (wi hw 94 rfl) (by decide) e6 (argsL := [(.int (3 : Int32)), (.int (0 : Int32))]) (rest := []) (W := 0) (rm_maxI l Z a0 hw (3 : Int32) (0 : Int32) h0 n0 Z0 (by decide)) (hb hby d11_56) (by rw [hml]; rfl) rfl pd1 rfl rfl (by decide) (by decide) (by decide) (by decide) ?_
  intro v7 T7 L7 X7 hQ7
  obtain ⟨rfl, Nq7, hh7⟩ := hQ7
  have N7 := Fr.app N0 Nq7
  refine Go.push (pc' := 59) rfl ?_
  refine g_iload X7 hx hby d11_59 (pc' := 61) rfl rfl ?_
  refine g_isub X7 hx hby d11_61 (pc' := 62) rfl (z := (2 : Int32)) rfl ?_
  refine Go.newarr X7 hx hZ (n := 2) (cap := 2) (ty := .long) rfl (wi hw 1 rfl) hh7 (by decide) rfl (by decide) (by decide) (by decide) (by decide) (hb hby d11_62) (pc' := 64) rfl ?_
  intro T8 h8 b8 X8 e8 E8 hb8 V8
  have g9 : n0 ≤ b8 := by rw [hb8]; exact Z0
  have s10 : h0.size ≤ b8 := by rw [hb8]; exact K0.1
  have V11 : ArF Z h8 b8 .long 2 (fun i => .long ((fun _ => (0 : Int64)) i)) := V8
  refine g_astore X8 hx hby d11_64 (pc' := 66) rfl rfl (L' := #[.val (.ref a1), .val (.ref y1), .val .null, .val .null, .val (.int (1 : Int32)), .val (.ref b8), .val (.int (2 : Int32)), .unset, .unset, .unset]) rfl ?_
  refine g_iconst X8 hx hby d11_66 (pc' := 67) rfl (z := (0 : Int32)) rfl ?_
  refine g_istore X8 hx hby d11_67 (pc' := 69) rfl (L' := #[.val (.ref a1), .val (.ref y1), .val .null, .val .null, .val (.int (1 : Int32)), .val (.ref b8), .val (.int (0 : Int32)), .unset, .unset, .unset]) rfl ?_
  refine g_iconst X8 hx hby d11_69 (pc' := 70) rfl (z := (0 : Int32)) rfl ?_
  refine g_istore X8 hx hby d11_70 (pc' := 72) rfl (L' := #[.val (.ref a1), .val (.ref y1), .val .null, .val .null, .val (.int (1 : Int32)), .val (.ref b8), .val (.int (0 : Int32)), .val (.int (0 : Int32)), .unset, .unset]) rfl ?_
  refine g_iload X8 hx hby d11_72 (pc' := 74) rfl rfl ?_
  refine g_aloadN X8 hx hby d11_74 (pc' := 75) rfl rfl rfl ?_
  have f12 := P3.ext E8
  refine g_getf X8 hx hby hZ hown (host := "") (Or.inl (wi hw 35 rfl)) Via.refl e8 f12 d11_75 (pc' := 78) rfl ?_
  intro T13 X13 e13
  have hc78 : (0 : Int) < (3 : Int) := by decide
  refine g_icmpNo X13 hx hby d11_78 (pc' := 81) (tlt (show (0 : Int32) < (3 : Int32) from Int32.lt_iff_toInt_lt.mpr hc78)).2.1 rfl ?_
  refine g_aloadN X13 hx hby d11_81 (pc' := 82) rfl rfl rfl ?_
  have f14 := P1.ext E8
  refine g_getf X13 hx hby hZ hown (host := "") (Or.inl (wi hw 13 rfl)) Via.refl e13 f14 d11_82 (pc' := 85) rfl ?_
  intro T15 X15 e15
  refine g_iload X15 hx hby d11_85 (pc' := 87) rfl rfl ?_
  have f16 := P12.ext E8
  refine Go.iaload X15 hx hZ e15 f16 (k := 0) rfl (by decide) (v := (0 : Int32)) rfl (hb hby d11_87) (pc' := 88) rfl ?_
  refine g_iconst X15 hx hby d11_88 (pc' := 89) rfl (z := (-1 : Int32)) rfl ?_
  have hc89 : ¬ ((0 : Int) = (-1 : Int)) := by decide
  refine g_icmpYes X15 hx hby d11_89 (pc' := 95) (feq (show ¬ ((0 : Int32) = (-1 : Int32)) from fun q => hc89 (congrArg Int32.toInt q))).2 (by decide) (by decide) ?_
  refine g_aloadN X15 hx hby d11_95 (pc' := 96) rfl rfl rfl ?_
  refine g_aloadN X15 hx hby d11_96 (pc' := 97) rfl rfl rfl ?_
  refine g_getf X15 hx hby hZ hown (host := "") (Or.inl (wi hw 13 rfl)) Via.refl e15 f14 d11_97 (pc' := 100) rfl ?_
  intro T17 X17 e17
  refine g_iload X17 hx hby d11_100 (pc' := 102) rfl rfl ?_
  refine Go.iaload X17 hx hZ e17 f16 (k := 0) rfl (by decide) (v := (0 : Int32)) rfl (hb hby d11_102) (pc' := 103) rfl ?_
  have f18 := P15.ext E8
  refine Go.iaload X17 hx hZ e17 f18 (k := 0) rfl (by decide) (v := (0 : Int32)) rfl (hb hby d11_103) (pc' := 104) rfl ?_
  refine g_istore X17 hx hby d11_104 (pc' := 106) rfl (L' := #[.val (.ref a1), .val (.ref y1), .val .null, .val .null, .val (.int (1 : Int32)), .val (.ref b8), .val (.int (0 : Int32)), .val (.int (0 : Int32)), .val (.int (0 : Int32)), .unset]) rfl ?_
  refine g_aloadN X17 hx hby d11_106 (pc' := 107) rfl rfl rfl ?_
  refine g_aloadN X17 hx hby d11_107 (pc' := 108) rfl rfl rfl ?_
  have f19 := P2.ext E8
  refine g_getf X17 hx hby hZ hown (host := "") (Or.inl (wi hw 15 rfl)) Via.refl e17 f19 d11_108 (pc' := 111) rfl ?_
  intro T20 X20 e20
  refine g_iload X20 hx hby d11_111 (pc' := 113) rfl rfl ?_
  have f21 := P13.ext E8
  refine Go.iaload X20 hx hZ e20 f21 (k := 0) rfl (by decide) (v := (0 : Int32)) rfl (hb hby d11_113) (pc' := 114) rfl ?_
  refine Go.iaload X20 hx hZ e20 f18 (k := 0) rfl (by decide) (v := (0 : Int32)) rfl (hb hby d11_114) (pc' := 115) rfl ?_
  refine g_istore X20 hx hby d11_115 (pc' := 117) rfl (L' := #[.val (.ref a1), .val (.ref y1), .val .null, .val .null, .val (.int (1 : Int32)), .val (.ref b8), .val (.int (0 : Int32)), .val (.int (0 : Int32)), .val (.int (0 : Int32)), .val (.int (0 : Int32))]) rfl ?_
  refine g_iload X20 hx hby d11_117 (pc' := 119) rfl rfl ?_
  have hc119 : (0 : Int) < (1 : Int) := by decide
  refine g_ifNo X20 hx hby d11_119 (pc' := 122) (tlt (show (0 : Int32) < (1 : Int32) from Int32.lt_iff_toInt_lt.mpr hc119)).2.2.2 rfl ?_
  refine g_iload X20 hx hby d11_122 (pc' := 124) rfl rfl ?_
  refine g_aload X20 hx hby d11_124 (pc' := 126) rfl rfl rfl ?_
  refine Go.alen X20 hx hZ e20 V11 (z := (2 : Int32)) rfl (hb hby d11_126) (pc' := 127) rfl ?_
  have hc127 : (0 : Int) < (2 : Int) := by decide
  refine g_icmpNo X20 hx hby d11_127 (pc' := 130) (tlt (show (0 : Int32) < (2 : Int32) from Int32.lt_iff_toInt_lt.mpr hc127)).2.1 rfl ?_
  refine g_aload X20 hx hby d11_130 (pc' := 132) rfl rfl rfl ?_
  refine g_iload X20 hx hby d11_132 (pc' := 134) rfl rfl ?_
  refine g_aloadN X20 hx hby d11_134 (pc' := 135) rfl rfl rfl ?_
  refine g_iload X20 hx hby d11_135 (pc' := 137) rfl rfl ?_
  have f23 := P5.ext E8
  have f24 := P6.ext E8
  have f25 := P14.ext E8
  have f26 := P0.ext E8
  refine Go.callV X20 hx hZ hown (wi hw 95 rfl) (wi hw 83 rfl) (notFace_of_selects (args := #[]) (mvT hZ (wi hw 85 rfl))) (wi hw 85 rfl) (wi hw 84 rfl) (wi hw 6 rfl) (wi hw 86 rfl) (by decide) e20 (a := a1) (argsL := [(.int (0 : Int32))]) (rest := [(.int (0 : Int32)), (.ref b8)]) (W := 2) f26 (rm_numA l Z a0 hw a1 (0 : Int32) x7 (3 : Int32) (3 : Int64) 0 g7 h8 n0 (Nat.le_trans Z0 E8.1) f23 f12 f24 f25 (by decide)) (hb hby d11_137) (by rw [hml]; rfl) rfl pd6 rfl rfl (by decide) (by decide) (by decide) (by decide) ?_
  intro v22 T22 L22 X22 hQ22
  obtain ⟨rfl, Nq22, hh22⟩ := hQ22
  have N22 := Fr.app N7 Nq22
  show Go p.tables e below s _ _ _ (T22.setTop (mkF m 140 #[.val (.ref a1), .val (.ref y1), .val .null, .val .null, .val (.int (1 : Int32)), .val (.ref b8), .val (.int (0 : Int32)), .val (.int (0 : Int32)), .val (.int (0 : Int32)), .val (.int (0 : Int32))] [(.long (0 : Int64)), (.int (0 : Int32)), (.ref b8)]))
  refine Go.lastore X22 hx hZ hh22 V11 (k := 0) rfl (by decide) (hb hby d11_140) (pc' := 141) rfl ?_
  intro T27 h27 X27 e27 W27 V27
  refine g_iload X27 hx hby d11_141 (pc' := 143) rfl rfl ?_
  refine g_iload X27 hx hby d11_143 (pc' := 145) rfl rfl ?_
  have hc145 : (0 : Int) = (0 : Int) := by decide
  refine g_icmpYes X27 hx hby d11_145 (pc' := 197) (teq (show (0 : Int32) = (0 : Int32) from Int32.toInt_inj.mp hc145)).1 (by decide) (by decide) ?_
  refine g_aloadN X27 hx hby d11_197 (pc' := 198) rfl rfl rfl ?_
  have ne28 : a1 ≠ b8 := Nat.ne_of_lt (by rw [hb8]; exact P11.lt)
  have f29 := (f14.other W27 (Or.inl ne28))
  refine g_getf X27 hx hby hZ hown (host := "") (Or.inl (wi hw 13 rfl)) Via.refl e27 f29 d11_198 (pc' := 201) rfl ?_
  intro T30 X30 e30
  refine g_iload X30 hx hby d11_201 (pc' := 203) rfl rfl ?_
  refine g_iload X30 hx hby d11_203 (pc' := 205) rfl rfl ?_
  have ne31 : x1 ≠ b8 := Nat.ne_of_lt (by rw [hb8]; exact P12.lt)
  have f32 := f16.other W27 ne31
  refine Go.iastore X30 hx hZ e30 f32 (k := 0) rfl (by decide) (hb hby d11_205) (pc' := 206) rfl ?_
  intro T33 h33 X33 e33 W33 V33
  refine g_aloadN X33 hx hby d11_206 (pc' := 207) rfl rfl rfl ?_
  have f34 := ((f19.other W27 (Or.inl ne28)).other W33 (Or.inl (Ne.symm ne_x1_a1)))
  refine g_getf X33 hx hby hZ hown (host := "") (Or.inl (wi hw 15 rfl)) Via.refl e33 f34 d11_207 (pc' := 210) rfl ?_
  intro T35 X35 e35
  refine g_iload X35 hx hby d11_210 (pc' := 212) rfl rfl ?_
  refine g_iload X35 hx hby d11_212 (pc' := 214) rfl rfl ?_
  have ne36 : x2 ≠ b8 := Nat.ne_of_lt (by rw [hb8]; exact P13.lt)
  have f37 := ((f21.other W27 ne36).other W33 (Ne.symm ne_x1_x2))
  refine Go.iastore X35 hx hZ e35 f37 (k := 0) rfl (by decide) (hb hby d11_214) (pc' := 215) rfl ?_
  intro T38 h38 X38 e38 W38 V38
  have z39 : n0 ≤ h38.size := (Nat.le_trans (Nat.le_trans (Nat.le_trans (Nat.le_trans Z0 E8.1) (Nat.le_of_eq (Wr.size W27).symm)) (Nat.le_of_eq (Wr.size W33).symm)) (Nat.le_of_eq (Wr.size W38).symm))
  refine g_iinc X38 hx hby d11_215 (pc' := 218) rfl rfl (L' := #[.val (.ref a1), .val (.ref y1), .val .null, .val .null, .val (.int (1 : Int32)), .val (.ref b8), .val (.int (1 : Int32)), .val (.int (0 : Int32)), .val (.int (0 : Int32)), .val (.int (0 : Int32))]) rfl ?_
  refine g_iinc X38 hx hby d11_218 (pc' := 221) rfl rfl (L' := #[.val (.ref a1), .val (.ref y1), .val .null, .val .null, .val (.int (1 : Int32)), .val (.ref b8), .val (.int (1 : Int32)), .val (.int (1 : Int32)), .val (.int (0 : Int32)), .val (.int (0 : Int32))]) rfl ?_
  refine g_goto X38 hx hby d11_221 (pc' := 72) (by decide) (by decide) ?_
  refine g_iload X38 hx hby d11_72 (pc' := 74) rfl rfl ?_
  refine g_aloadN X38 hx hby d11_74 (pc' := 75) rfl rfl rfl ?_
  have f40 := (((f12.other W27 (Or.inl ne28)).other W33 (Or.inl (Ne.symm ne_x1_a1))).other W38 (Or.inl (Ne.symm ne_x2_a1)))
  refine g_getf X38 hx hby hZ hown (host := "") (Or.inl (wi hw 35 rfl)) Via.refl e38 f40 d11_75 (pc' := 78) rfl ?_
  intro T41 X41 e41
  have hc78 : (1 : Int) < (3 : Int) := by decide
  refine g_icmpNo X41 hx hby d11_78 (pc' := 81) (tlt (show (1 : Int32) < (3 : Int32) from Int32.lt_iff_toInt_lt.mpr hc78)).2.1 rfl ?_
  refine g_aloadN X41 hx hby d11_81 (pc' := 82) rfl rfl rfl ?_
  have f42 := ((f29.other W33 (Or.inl (Ne.symm ne_x1_a1))).other W38 (Or.inl (Ne.symm ne_x2_a1)))
  refine g_getf X41 hx hby hZ hown (host := "") (Or.inl (wi hw 13 rfl)) Via.refl e41 f42 d11_82 (pc' := 85) rfl ?_
  intro T43 X43 e43
  refine g_iload X43 hx hby d11_85 (pc' := 87) rfl rfl ?_
  have f44 := V33.other W38 ne_x1_x2
  refine Go.iaload X43 hx hZ e43 f44 (k := 1) rfl (by decide) (v := (0 : Int32)) rfl (hb hby d11_87) (pc' := 88) rfl ?_
  refine g_iconst X43 hx hby d11_88 (pc' := 89) rfl (z := (-1 : Int32)) rfl ?_
  have hc89 : ¬ ((0 : Int) = (-1 : Int)) := by decide
  refine g_icmpYes X43 hx hby d11_89 (pc' := 95) (feq (show ¬ ((0 : Int32) = (-1 : Int32)) from fun q => hc89 (congrArg Int32.toInt q))).2 (by decide) (by decide) ?_
  refine g_aloadN X43 hx hby d11_95 (pc' := 96) rfl rfl rfl ?_
  refine g_aloadN X43 hx hby d11_96 (pc' := 97) rfl rfl rfl ?_
  refine g_getf X43 hx hby hZ hown (host := "") (Or.inl (wi hw 13 rfl)) Via.refl e43 f42 d11_97 (pc' := 100) rfl ?_
  intro T45 X45 e45
  refine g_iload X45 hx hby d11_100 (pc' := 102) rfl rfl ?_
  refine Go.iaload X45 hx hZ e45 f44 (k := 1) rfl (by decide) (v := (0 : Int32)) rfl (hb hby d11_102) (pc' := 103) rfl ?_
  have ne46 : y1 ≠ b8 := Nat.ne_of_lt (by rw [hb8]; exact P15.lt)
  have f47 := (((f18.other W27 ne46).other W33 ne_y1_x1).other W38 ne_y1_x2)
  refine Go.iaload X45 hx hZ e45 f47 (k := 0) rfl (by decide) (v := (0 : Int32)) rfl (hb hby d11_103) (pc' := 104) rfl ?_
  refine g_istore X45 hx hby d11_104 (pc' := 106) rfl (L' := #[.val (.ref a1), .val (.ref y1), .val .null, .val .null, .val (.int (1 : Int32)), .val (.ref b8), .val (.int (1 : Int32)), .val (.int (1 : Int32)), .val (.int (0 : Int32)), .val (.int (0 : Int32))]) rfl ?_
  refine g_aloadN X45 hx hby d11_106 (pc' := 107) rfl rfl rfl ?_
  refine g_aloadN X45 hx hby d11_107 (pc' := 108) rfl rfl rfl ?_
  have f48 := (f34.other W38 (Or.inl (Ne.symm ne_x2_a1)))
  refine g_getf X45 hx hby hZ hown (host := "") (Or.inl (wi hw 15 rfl)) Via.refl e45 f48 d11_108 (pc' := 111) rfl ?_
  intro T49 X49 e49
  refine g_iload X49 hx hby d11_111 (pc' := 113) rfl rfl ?_
  refine Go.iaload X49 hx hZ e49 V38 (k := 1) rfl (by decide) (v := (0 : Int32)) rfl (hb hby d11_113) (pc' := 114) rfl ?_
  refine Go.iaload X49 hx hZ e49 f47 (k := 0) rfl (by decide) (v := (0 : Int32)) rfl (hb hby d11_114) (pc' := 115) rfl ?_
  refine g_istore X49 hx hby d11_115 (pc' := 117) rfl (L' := #[.val (.ref a1), .val (.ref y1), .val .null, .val .null, .val (.int (1 : Int32)), .val (.ref b8), .val (.int (1 : Int32)), .val (.int (1 : Int32)), .val (.int (0 : Int32)), .val (.int (0 : Int32))]) rfl ?_
  refine g_iload X49 hx hby d11_117 (pc' := 119) rfl rfl ?_
  have hc119 : (0 : Int) < (1 : Int) := by decide
  refine g_ifNo X49 hx hby d11_119 (pc' := 122) (tlt (show (0 : Int32) < (1 : Int32) from Int32.lt_iff_toInt_lt.mpr hc119)).2.2.2 rfl ?_
  refine g_iload X49 hx hby d11_122 (pc' := 124) rfl rfl ?_
  refine g_aload X49 hx hby d11_124 (pc' := 126) rfl rfl rfl ?_
  have f50 := ((V27.other W33 (Ne.symm ne31)).other W38 (Ne.symm ne36))
  refine Go.alen X49 hx hZ e49 f50 (z := (2 : Int32)) rfl (hb hby d11_126) (pc' := 127) rfl ?_
  have hc127 : (1 : Int) < (2 : Int) := by decide
  refine g_icmpNo X49 hx hby d11_127 (pc' := 130) (tlt (show (1 : Int32) < (2 : Int32) from Int32.lt_iff_toInt_lt.mpr hc127)).2.1 rfl ?_
  refine g_aload X49 hx hby d11_130 (pc' := 132) rfl rfl rfl ?_
  refine g_iload X49 hx hby d11_132 (pc' := 134) rfl rfl ?_
  refine g_aloadN X49 hx hby d11_134 (pc' := 135) rfl rfl rfl ?_
  refine g_iload X49 hx hby d11_135 (pc' := 137) rfl rfl ?_
  have f52 := (((f23.other W27 (Or.inl ne28)).other W33 (Or.inl (Ne.symm ne_x1_a1))).other W38 (Or.inl (Ne.symm ne_x2_a1)))
  have f53 := (((f24.other W27 (Or.inl ne28)).other W33 (Or.inl (Ne.symm ne_x1_a1))).other W38 (Or.inl (Ne.symm ne_x2_a1)))
  have ne54 : x7 ≠ b8 := Nat.ne_of_lt (by rw [hb8]; exact P14.lt)
  have f55 := (((f25.other W27 ne54).other W33 ne_x7_x1).other W38 ne_x7_x2)
  have f56 := (((f26.wr W27).wr W33).wr W38)
  refine Go.callV X49 hx hZ hown (wi hw 95 rfl) (wi hw 83 rfl) (notFace_of_selects (args := #[]) (mvT hZ (wi hw 85 rfl))) (wi hw 85 rfl) (wi hw 84 rfl) (wi hw 6 rfl) (wi hw 86 rfl) (by decide) e49 (a := a1) (argsL := [(.int (1 : Int32))]) (rest := [(.int (1 : Int32)), (.ref b8)]) (W := 2) f56 (rm_numA l Z a0 hw a1 (1 : Int32) x7 (3 : Int32) (3 : Int64) 0 g7 h38 n0 z39 f52 f40 f53 f55 (by decide)) (hb hby d11_137) (by rw [hml]; rfl) rfl pd6 rfl rfl (by decide) (by decide) (by decide) (by decide) ?_
  intro v51 T51 L51 X51 hQ51
  obtain ⟨rfl, Nq51, hh51⟩ := hQ51
  have N51 := Fr.app (Fr.snoc X38 (Fr.snoc X33 (Fr.snoc X27 N22 g9) ge_x1) ge_x2) Nq51
  show Go p.tables e below s _ _ _ (T51.setTop (mkF m 140 #[.val (.ref a1), .val (.ref y1), .val .null, .val .null, .val (.int (1 : Int32)), .val (.ref b8), .val (.int (1 : Int32)), .val (.int (1 : Int32)), .val (.int (0 : Int32)), .val (.int (0 : Int32))] [(.long (1 : Int64)), (.int (1 : Int32)), (.ref b8)]))
  refine Go.lastore X51 hx hZ hh51 f50 (k := 1) rfl (by decide) (hb hby d11_140) (pc' := 141) rfl ?_
  intro T57 h57 X57 e57 W57 V57
  refine g_iload X57 hx hby d11_141 (pc' := 143) rfl rfl ?_
  refine g_iload X57 hx hby d11_143 (pc' := 145) rfl rfl ?_
  have hc145 : (1 : Int) = (1 : Int) := by decide
  refine g_icmpYes X57 hx hby d11_145 (pc' := 197) (teq (show (1 : Int32) = (1 : Int32) from Int32.toInt_inj.mp hc145)).1 (by decide) (by decide) ?_
  refine g_aloadN X57 hx hby d11_197 (pc' := 198) rfl rfl rfl ?_
  have f58 := (f42.other W57 (Or.inl ne28))
  refine g_getf X57 hx hby hZ hown (host := "") (Or.inl (wi hw 13 rfl)) Via.refl e57 f58 d11_198 (pc' := 201) rfl ?_
  intro T59 X59 e59
  refine g_iload X59 hx hby d11_201 (pc' := 203) rfl rfl ?_
  refine g_iload X59 hx hby d11_203 (pc' := 205) rfl rfl ?_
  have f60 := f44.other W57 ne31
  refine Go.iastore X59 hx hZ e59 f60 (k := 1) rfl (by decide) (hb hby d11_205) (pc' := 206) rfl ?_
  intro T61 h61 X61 e61 W61 V61
  have K62 : Keep h0 h61 [a1, x1, x2] := ((((((K0.ext E8).wr W27 (Or.inr s10)).wr W33 (Or.inl (List.mem_of_getElem? (i := 1) rfl))).wr W38 (Or.inl (List.mem_of_getElem? (i := 2) rfl))).wr W57 (Or.inr s10)).wr W61 (Or.inl (List.mem_of_getElem? (i := 1) rfl)))
  refine g_aloadN X61 hx hby d11_206 (pc' := 207) rfl rfl rfl ?_
  have f63 := ((f48.other W57 (Or.inl ne28)).other W61 (Or.inl (Ne.symm ne_x1_a1)))
  refine g_getf X61 hx hby hZ hown (host := "") (Or.inl (wi hw 15 rfl)) Via.refl e61 f63 d11_207 (pc' := 210) rfl ?_
  intro T64 X64 e64
  refine g_iload X64 hx hby d11_210 (pc' := 212) rfl rfl ?_
  refine g_iload X64 hx hby d11_212 (pc' := 214) rfl rfl ?_
  have f65 := ((V38.other W57 ne36).other W61 (Ne.symm ne_x1_x2))
  refine Go.iastore X64 hx hZ e64 f65 (k := 1) rfl (by decide) (hb hby d11_214) (pc' := 215) rfl ?_
  intro T66 h66 X66 e66 W66 V66
  refine g_iinc X66 hx hby d11_215 (pc' := 218) rfl rfl (L' := #[.val (.ref a1), .val (.ref y1), .val .null, .val .null, .val (.int (1 : Int32)), .val (.ref b8), .val (.int (2 : Int32)), .val (.int (1 : Int32)), .val (.int (0 : Int32)), .val (.int (0 : Int32))]) rfl ?_
  refine g_iinc X66 hx hby d11_218 (pc' := 221) rfl rfl (L' := #[.val (.ref a1), .val (.ref y1), .val .null, .val .null, .val (.int (1 : Int32)), .val (.ref b8), .val (.int (2 : Int32)), .val (.int (2 : Int32)), .val (.int (0 : Int32)), .val (.int (0 : Int32))]) rfl ?_
  refine g_goto X66 hx hby d11_221 (pc' := 72) (by decide) (by decide) ?_
  refine g_iload X66 hx hby d11_72 (pc' := 74) rfl rfl ?_
  refine g_aloadN X66 hx hby d11_74 (pc' := 75) rfl rfl rfl ?_
  have f67 := (((f40.other W57 (Or.inl ne28)).other W61 (Or.inl (Ne.symm ne_x1_a1))).other W66 (Or.inl (Ne.symm ne_x2_a1)))
  refine g_getf X66 hx hby hZ hown (host := "") (Or.inl (wi hw 35 rfl)) Via.refl e66 f67 d11_75 (pc' := 78) rfl ?_
  intro T68 X68 e68
  have hc78 : (2 : Int) < (3 : Int) := by decide
  refine g_icmpNo X68 hx hby d11_78 (pc' := 81) (tlt (show (2 : Int32) < (3 : Int32) from Int32.lt_iff_toInt_lt.mpr hc78)).2.1 rfl ?_
  refine g_aloadN X68 hx hby d11_81 (pc' := 82) rfl rfl rfl ?_
  have f69 := ((f58.other W61 (Or.inl (Ne.symm ne_x1_a1))).other W66 (Or.inl (Ne.symm ne_x2_a1)))
  refine g_getf X68 hx hby hZ hown (host := "") (Or.inl (wi hw 13 rfl)) Via.refl e68 f69 d11_82 (pc' := 85) rfl ?_
  intro T70 X70 e70
  refine g_iload X70 hx hby d11_85 (pc' := 87) rfl rfl ?_
  have f71 := V61.other W66 ne_x1_x2
  refine Go.iaload X70 hx hZ e70 f71 (k := 2) rfl (by decide) (v := (-1 : Int32)) rfl (hb hby d11_87) (pc' := 88) rfl ?_
  refine g_iconst X70 hx hby d11_88 (pc' := 89) rfl (z := (-1 : Int32)) rfl ?_
  have hc89 : (-1 : Int) = (-1 : Int) := by decide
  refine g_icmpNo X70 hx hby d11_89 (pc' := 92) (teq (show (-1 : Int32) = (-1 : Int32) from Int32.toInt_inj.mp hc89)).2 rfl ?_
  refine g_goto X70 hx hby d11_92 (pc' := 218) (by decide) (by decide) ?_
  refine g_iinc X70 hx hby d11_218 (pc' := 221) rfl rfl (L' := #[.val (.ref a1), .val (.ref y1), .val .null, .val .null, .val (.int (1 : Int32)), .val (.ref b8), .val (.int (2 : Int32)), .val (.int (3 : Int32)), .val (.int (0 : Int32)), .val (.int (0 : Int32))]) rfl ?_
  refine g_goto X70 hx hby d11_221 (pc' := 72) (by decide) (by decide) ?_
  refine g_iload X70 hx hby d11_72 (pc' := 74) rfl rfl ?_
  refine g_aloadN X70 hx hby d11_74 (pc' := 75) rfl rfl rfl ?_
  refine g_getf X70 hx hby hZ hown (host := "") (Or.inl (wi hw 35 rfl)) Via.refl e70 f67 d11_75 (pc' := 78) rfl ?_
  intro T72 X72 e72
  have hc78 : ¬ ((3 : Int) < (3 : Int)) := by decide
  refine g_icmpYes X72 hx hby d11_78 (pc' := 224) (flt (show ¬ ((3 : Int32) < (3 : Int32)) from fun q => hc78 (Int32.lt_iff_toInt_lt.mp q))).2.1 (by decide) (by decide) ?_
  refine g_aloadN X72 hx hby d11_224 (pc' := 225) rfl rfl rfl ?_
  refine g_aload X72 hx hby d11_225 (pc' := 227) rfl rfl rfl ?_
  have f73 := (((f52.other W57 (Or.inl ne28)).other W61 (Or.inl (Ne.symm ne_x1_a1))).other W66 (Or.inl (Ne.symm ne_x2_a1)))
  have f74 := (((f56.wr W57).wr W61).wr W66)
  refine g_putf X72 hx hby hZ hown (host := "") (Or.inl (wi hw 26 rfl)) Via.refl e72 f73 f74 (Or.inl (wi hw 27 rfl)) (wi hw 5 rfl) (ty := (.array .long)) (by decide) rfl rfl d11_227 (pc' := 230) rfl ?_
  intro T75 h75 X75 e75 W75 F75
  have z76 : n0 ≤ h75.size := (Nat.le_trans (Nat.le_trans (Nat.le_trans (Nat.le_trans z39 (Nat.le_of_eq (Wr.size W57).symm)) (Nat.le_of_eq (Wr.size W61).symm)) (Nat.le_of_eq (Wr.size W66).symm)) (Nat.le_of_eq (Wr.size W75).symm))
  refine g_aloadN X75 hx hby d11_230 (pc' := 231) rfl rfl rfl ?_
  refine g_iload X75 hx hby d11_231 (pc' := 233) rfl rfl ?_
  have f77 := (f67.other W75 (Or.inr (sn62 hw)))
  have f78 := f74.wr W75
  refine g_putf X75 hx hby hZ hown (host := "") (Or.inl (wi hw 35 rfl)) Via.refl e75 f77 f78 (Or.inl (wi hw 36 rfl)) (wi hw 5 rfl) (ty := .int) (by decide) rfl rfl d11_233 (pc' := 236) rfl ?_
  intro T79 h79 X79 e79 W79 F79
  refine g_aloadN X79 hx hby d11_236 (pc' := 237) rfl rfl rfl ?_
  have f80 := ((f69.other W75 (Or.inr (sn33 hw))).other W79 (Or.inr (sn83 hw)))
  refine g_getf X79 hx hby hZ hown (host := "") (Or.inl (wi hw 13 rfl)) Via.refl e79 f80 d11_237 (pc' := 240) rfl ?_
  intro T81 X81 e81
  have f82 := ((f71.other W75 ne_x1_a1).other W79 ne_x1_a1)
  refine Go.alen X81 hx hZ e81 f82 (z := (4 : Int32)) rfl (hb hby d11_240) (pc' := 241) rfl ?_
  refine g_aloadN X81 hx hby d11_241 (pc' := 242) rfl rfl rfl ?_
  refine g_getf X81 hx hby hZ hown (host := "") (Or.inl (wi hw 35 rfl)) Via.refl e81 F79 d11_242 (pc' := 245) rfl ?_
  intro T83 X83 e83
  refine Go.callS X83 hx hZ hown (wi hw 79 rfl) (wi hw 80 rfl) (wi hw 39 rfl) (wi hw 81 rfl) (by decide) e83 (argsL := [(.int (4 : Int32)), (.int (2 : Int32))]) (rest := []) (W := 0) (rm_trim l Z a0 hw (2 : Int32) h79 n0 (Nat.le_trans z76 (Nat.le_of_eq (Wr.size W79).symm)) ) (hb hby d11_245) (by rw [hml]; rfl) rfl pd1 rfl rfl (by decide) (by decide) (by decide) (by decide) ?_
  intro v84 T84 L84 X84 hQ84
  obtain ⟨rfl, Nq84, hh84⟩ := hQ84
  have N84 := Fr.app (Fr.snoc X79 (Fr.snoc X75 (Fr.snoc X66 (Fr.snoc X61 (Fr.snoc X57 N51 g9) ge_x1) ge_x2) ge_a1) ge_a1) Nq84
  refine Go.push (pc' := 248) rfl ?_
  refine g_istore X84 hx hby d11_248 (pc' := 250) rfl (L' := #[.val (.ref a1), .val (.ref y1), .val .null, .val .null, .val (.int (1 : Int32)), .val (.ref b8), .val (.int (2 : Int32)), .val (.int (4 : Int32)), .val (.int (0 : Int32)), .val (.int (0 : Int32))]) rfl ?_
  refine g_iload X84 hx hby d11_250 (pc' := 252) rfl rfl ?_
  refine g_aloadN X84 hx hby d11_252 (pc' := 253) rfl rfl rfl ?_
  refine g_getf X84 hx hby hZ hown (host := "") (Or.inl (wi hw 13 rfl)) Via.refl hh84 f80 d11_253 (pc' := 256) rfl ?_
  intro T85 X85 e85
  refine Go.alen X85 hx hZ e85 f82 (z := (4 : Int32)) rfl (hb hby d11_256) (pc' := 257) rfl ?_
  have hc257 : ¬ ((4 : Int) < (4 : Int)) := by decide
  refine g_icmpYes X85 hx hby d11_257 (pc' := 266) (flt (show ¬ ((4 : Int32) < (4 : Int32)) from fun q => hc257 (Int32.lt_iff_toInt_lt.mp q))).2.1 (by decide) (by decide) ?_
  refine Go.retV X85 hx hlk hret (hb hby d11_266) rfl (by decide) (by decide) ?_
  have V86 : ArF Z h79 x1 .int 4 (fun i => .int ((own_l [(0 : Int32), (0 : Int32), (-1 : Int32), (0 : Int32)]) i)) := f82.congr (fun i hi => congrArg Value.int ((by decide : ∀ i, i < 4 → (own_l [(0 : Int32), (0 : Int32), (-1 : Int32), (0 : Int32)]) i = (upI (upI (own_l [(0 : Int32), (0 : Int32), (-1 : Int32), (0 : Int32)]) 0 (0 : Int32)) 1 (0 : Int32)) i) i hi))
  have f87 := ((V66.other W75 ne_x2_a1).other W79 ne_x2_a1)
  have V88 : ArF Z h79 x2 .int 4 (fun i => .int ((own_l [(0 : Int32), (0 : Int32), (-1 : Int32), (0 : Int32)]) i)) := f87.congr (fun i hi => congrArg Value.int ((by decide : ∀ i, i < 4 → (own_l [(0 : Int32), (0 : Int32), (-1 : Int32), (0 : Int32)]) i = (upI (upI (own_l [(0 : Int32), (0 : Int32), (-1 : Int32), (0 : Int32)]) 0 (0 : Int32)) 1 (0 : Int32)) i) i hi))
  have f89 := (F75.other W79 (Or.inr (sn101 hw)))
  have f90 := ((((V57.other W61 (Ne.symm ne31)).other W66 (Ne.symm ne36)).other W75 (Ne.symm ne28)).other W79 (Ne.symm ne28))
  have V91 : ArF Z h79 b8 .long 2 (fun i => .long ((own_lj [(0 : Int64), (1 : Int64)]) i)) := f90.congr (fun i hi => congrArg Value.long ((by decide : ∀ i, i < 2 → (own_lj [(0 : Int64), (1 : Int64)]) i = (upJ (upJ (fun _ => (0 : Int64)) 0 (0 : Int64)) 1 (1 : Int64)) i) i hi))
  rw [e85]
  have f92 := (((f63.other W66 (Or.inl (Ne.symm ne_x2_a1))).other W75 (Or.inr (sn39 hw))).other W79 (Or.inr (sn86 hw)))
  have f93 := (((((((((P4.ext E8).other W27 (Or.inl ne28)).other W33 (Or.inl (Ne.symm ne_x1_a1))).other W38 (Or.inl (Ne.symm ne_x2_a1))).other W57 (Or.inl ne28)).other W61 (Or.inl (Ne.symm ne_x1_a1))).other W66 (Or.inl (Ne.symm ne_x2_a1))).other W75 (Or.inr (sn70 hw))).other W79 (Or.inr (sn80 hw)))
  have f94 := (((((f53.other W57 (Or.inl ne28)).other W61 (Or.inl (Ne.symm ne_x1_a1))).other W66 (Or.inl (Ne.symm ne_x2_a1))).other W75 (Or.inr (sn78 hw))).other W79 (Or.inr (sn81 hw)))
  have f95 := (((((((((P7.ext E8).other W27 (Or.inl ne28)).other W33 (Or.inl (Ne.symm ne_x1_a1))).other W38 (Or.inl (Ne.symm ne_x2_a1))).other W57 (Or.inl ne28)).other W61 (Or.inl (Ne.symm ne_x1_a1))).other W66 (Or.inl (Ne.symm ne_x2_a1))).other W75 (Or.inr (sn27 hw))).other W79 (Or.inr (sn98 hw)))
  have f96 := (((((((((P8.ext E8).other W27 (Or.inl ne28)).other W33 (Or.inl (Ne.symm ne_x1_a1))).other W38 (Or.inl (Ne.symm ne_x2_a1))).other W57 (Or.inl ne28)).other W61 (Or.inl (Ne.symm ne_x1_a1))).other W66 (Or.inl (Ne.symm ne_x2_a1))).other W75 (Or.inr (sn44 hw))).other W79 (Or.inr (sn89 hw)))
  have f97 := (((((((((P9.ext E8).other W27 (Or.inl ne28)).other W33 (Or.inl (Ne.symm ne_x1_a1))).other W38 (Or.inl (Ne.symm ne_x2_a1))).other W57 (Or.inl ne28)).other W61 (Or.inl (Ne.symm ne_x1_a1))).other W66 (Or.inl (Ne.symm ne_x2_a1))).other W75 (Or.inr (sn48 hw))).other W79 (Or.inr (sn92 hw)))
  have f98 := (((((((((P10.ext E8).other W27 (Or.inl ne28)).other W33 (Or.inl (Ne.symm ne_x1_a1))).other W38 (Or.inl (Ne.symm ne_x2_a1))).other W57 (Or.inl ne28)).other W61 (Or.inl (Ne.symm ne_x1_a1))).other W66 (Or.inl (Ne.symm ne_x2_a1))).other W75 (Or.inr (sn51 hw))).other W79 (Or.inr (sn95 hw)))
  have f99 := (((((((((P11.ext E8).other W27 (Or.inl ne28)).other W33 (Or.inl (Ne.symm ne_x1_a1))).other W38 (Or.inl (Ne.symm ne_x2_a1))).other W57 (Or.inl ne28)).other W61 (Or.inl (Ne.symm ne_x1_a1))).other W66 (Or.inl (Ne.symm ne_x2_a1))).other W75 (Or.inr (sn53 hw))).other W79 (Or.inr (sn104 hw)))
  exact ⟨b8, rfl, N84, (((K62.wr W66 (Or.inl (List.mem_of_getElem? (i := 2) rfl))).wr W75 (Or.inl (List.mem_of_getElem? (i := 0) rfl))).wr W79 (Or.inl (List.mem_of_getElem? (i := 0) rfl))), g9, s10, f80, f92, F79, f93, f89, f94, f95, f96, f97, f98, f99, V86, V88, V91⟩
theorem ef_rm_compactA1 (m : MethodId) (x0 : Addr) (x1 : Addr) : entryFrame m #[(.ref x0), (.ref x1), .null, .null] 10 = mkF m 0 #[.val (.ref x0), .val (.ref x1), .val .null, .val .null, .unset, .unset, .unset, .unset, .unset, .unset] [] := by first | (simp [entryFrame, mkF, argsToLocals, Value.category]; done) | rfl
abbrev Q_rm_compactA1 (Z : State) (a1 : Addr) (y1 : Addr) (x1 : Addr) (x2 : Addr) (x7 : Addr) (kd : Int32) (x3 : Addr) (x4 : Addr) (x5 : Addr) (x6 : Addr) (g7 : Nat → Int64) (h0 : Heap) (n0 : Nat) : Option Value → Heap → List Loc → Prop := fun v h L => ∃ (b1 : Addr), v = none ∧ Fr n0 L ∧ Keep h0 h [a1, x1, x2] ∧ n0 ≤ b1 ∧ h0.size ≤ b1 ∧ Fld Z h a1 kES "sources" "[I" (.ref x1) ∧ Fld Z h a1 kES "targets" "[I" (.ref x2) ∧ Fld Z h a1 kES "bound" "I" (.int (0 : Int32)) ∧ Fld Z h a1 kES "count" "I" (.int (0 : Int32)) ∧ Fld Z h a1 kES "keptNumbers" "[J" (.ref b1) ∧ Fld Z h a1 kES "nextNumber" "J" (.long (1 : Int64)) ∧ Fld Z h a1 kES "keyed" "Z" (.int kd) ∧ Fld Z h a1 kES "sourcePositions" "[I" (.ref x3) ∧ Fld Z h a1 kES "targetPositions" "[I" (.ref x4) ∧ Fld Z h a1 kES "weights" "[D" (.ref x5) ∧ Fld Z h a1 kES "keys" "[I" (.ref x6) ∧ ArF Z h x1 .int 4 (fun i => .int ((own_l [(-1 : Int32), (0 : Int32), (0 : Int32), (0 : Int32)]) i)) ∧ ArF Z h x2 .int 4 (fun i => .int ((own_l [(-1 : Int32), (0 : Int32), (0 : Int32), (0 : Int32)]) i)) ∧ ArF Z h b1 .long 0 (fun i => .long ((fun _ => (0 : Int64)) i))
set_option maxRecDepth 65536 in
set_option maxHeartbeats 40000000 in
theorem rm_compactA1 (l : Launch) (Z : State) (a0 : Array Value) (hw : ∀ d ∈ tables_1, d.before a0 Z = true) (a1 : Addr) (y1 : Addr) (x1 : Addr) (x2 : Addr) (x7 : Addr) (kd : Int32) (x3 : Addr) (x4 : Addr) (x5 : Addr) (x6 : Addr) (g7 : Nat → Int64) (h0 : Heap) (n0 : Nat) (Z0 : n0 ≤ h0.size) (P0 : Exa Z h0 a1 kES) (P1 : Fld Z h0 a1 kES "sources" "[I" (.ref x1)) (P2 : Fld Z h0 a1 kES "targets" "[I" (.ref x2)) (P3 : Fld Z h0 a1 kES "bound" "I" (.int (1 : Int32))) (P4 : Fld Z h0 a1 kES "count" "I" (.int (0 : Int32))) (P5 : Fld Z h0 a1 kES "keptNumbers" "[J" (.ref x7)) (P6 : Fld Z h0 a1 kES "nextNumber" "J" (.long (1 : Int64))) (P7 : Fld Z h0 a1 kES "keyed" "Z" (.int kd)) (P8 : Fld Z h0 a1 kES "sourcePositions" "[I" (.ref x3)) (P9 : Fld Z h0 a1 kES "targetPositions" "[I" (.ref x4)) (P10 : Fld Z h0 a1 kES "weights" "[D" (.ref x5)) (P11 : Fld Z h0 a1 kES "keys" "[I" (.ref x6)) (P12 : ArF Z h0 x1 .int 4 (fun i => .int ((own_l [(-1 : Int32), (0 : Int32), (0 : Int32), (0 : Int32)]) i))) (P13 : ArF Z h0 x2 .int 4 (fun i => .int ((own_l [(-1 : Int32), (0 : Int32), (0 : Int32), (0 : Int32)]) i))) (P14 : ArF Z h0 x7 .long 0 (fun i => .long (g7 i))) (P15 : ArF Z h0 y1 .int 1 (fun i => .int ((own_l [(0 : Int32)]) i))) (ne_x1_a1 : x1 ≠ a1) (ne_x2_a1 : x2 ≠ a1) (ne_x1_x2 : x1 ≠ x2) (ne_x7_a1 : x7 ≠ a1) (ne_x7_x1 : x7 ≠ x1) (ne_x7_x2 : x7 ≠ x2) (ne_y1_a1 : y1 ≠ a1) (ne_y1_x1 : y1 ≠ x1) (ne_y1_x2 : y1 ≠ x2) (ge_a1 : n0 ≤ a1) (ge_x1 : n0 ≤ x1) (ge_x2 : n0 ≤ x2) :
    Con l Z (⟨"com/example/edgewise/edgewise/EdgeSlots", "compact", "([ILcom/example/edgewise/edgewise/Adjacency;Lcom/example/edgewise/edgewise/Adjacency;)V"⟩ : MethodName) prog_12_method_20_code 10 none ({ frames := 1, cells := 1, slots := 0, locals := 13 } : Room) #[(.ref a1), (.ref y1), .null, .null] h0 (Q_rm_compactA1 Z a1 y1 x1 x2 x7 kd x3 x4 x5 x6 g7 h0 n0) := by
  refine meet (y := (⟨"com/example/edgewise/edgewise/EdgeSlots", "compact", "([ILcom/example/edgewise/edgewise/Adjacency;Lcom/example/edgewise/edgewise/Adjacency;)V"⟩ : MethodName)) (Q := Q_rm_compactA1 Z a1 y1 x1 x2 x7 kd x3 x4 x5 x6 g7 h0 n0) (plainFor_of_name pn_com_example_edgewise_edgewise_EdgeSlots) (fun m => ef_rm_compactA1 m a1 y1) ?_
  intro p e s m below meth c T0 hx hby hml hZ hown hnm hret hlk X0 e0
  have N0 := Fr.nil n0
  have K0 := Keep.refl h0 [a1, x1, x2]
  refine g_aloadN X0 hx hby d11_0 (pc' := 1) rfl rfl rfl ?_
  refine g_getf X0 hx hby hZ hown (host := "") (Or.inl (wi hw 35 rfl)) Via.refl e0 P3 d11_1 (pc' := 4) rfl ?_
  intro T1 X1 e1
  refine g_aloadN X1 hx hby d11_4 (pc' := 5) rfl rfl rfl ?_
  refine g_getf X1 hx hby hZ hown (host := "") (Or.inl (wi hw 70 rfl)) Via.refl e1 P4 d11_5 (pc' := 8) rfl ?_
  intro T2 X2 e2
  refine g_isub X2 hx hby d11_8 (pc' := 9) rfl (z := (1 : Int32)) rfl ?_
  refine g_istore X2 hx hby d11_9 (pc' := 11) rfl (L' := #[.val (.ref a1), .val (.ref y1), .val .null, .val .null, .val (.int (1 : Int32)), .unset, .unset, .unset, .unset, .unset]) rfl ?_
  refine g_aloadN X2 hx hby d11_11 (pc' := 12) rfl rfl rfl ?_
  refine g_getf X2 hx hby hZ hown (host := "") (Or.inl (wi hw 26 rfl)) Via.refl e2 P5 d11_12 (pc' := 15) rfl ?_
  intro T3 X3 e3
  refine g_astore X3 hx hby d11_15 (pc' := 17) rfl rfl (L' := #[.val (.ref a1), .val (.ref y1), .val .null, .val .null, .val (.int (1 : Int32)), .val (.ref x7), .unset, .unset, .unset, .unset]) rfl ?_
  refine g_iload X3 hx hby d11_17 (pc' := 19) rfl rfl ?_
  have hc19 : (0 : Int) < (1 : Int) := by decide
  refine g_ifNo X3 hx hby d11_19 (pc' := 22) (tlt (show (0 : Int32) < (1 : Int32) from Int32.lt_iff_toInt_lt.mpr hc19)).2.2.2 rfl ?_
  refine g_aloadN X3 hx hby d11_22 (pc' := 23) rfl rfl rfl ?_
  refine g_getf X3 hx hby hZ hown (host := "") (Or.inl (wi hw 35 rfl)) Via.refl e3 P3 d11_23 (pc' := 26) rfl ?_
  intro T4 X4 e4
  refine g_iconst X4 hx hby d11_26 (pc' := 27) rfl (z := (1 : Int32)) rfl ?_
  refine g_isub X4 hx hby d11_27 (pc' := 28) rfl (z := (0 : Int32)) rfl ?_
  refine g_istore X4 hx hby d11_28 (pc' := 30) rfl (L' := #[.val (.ref a1), .val (.ref y1), .val .null, .val .null, .val (.int (1 : Int32)), .val (.ref x7), .val (.int (0 : Int32)), .unset, .unset, .unset]) rfl ?_
  refine g_aloadN X4 hx hby d11_30 (pc' := 31) rfl rfl rfl ?_
  refine g_getf X4 hx hby hZ hown (host := "") (Or.inl (wi hw 13 rfl)) Via.refl e4 P1 d11_31 (pc' := 34) rfl ?_
  intro T5 X5 e5
  refine g_iload X5 hx hby d11_34 (pc' := 36) rfl rfl ?_
  refine Go.iaload X5 hx hZ e5 P12 (k := 0) rfl (by decide) (v := (-1 : Int32)) rfl (hb hby d11_36) (pc' := 37) rfl ?_
  refine g_iconst X5 hx hby d11_37 (pc' := 38) rfl (z := (-1 : Int32)) rfl ?_
  have hc38 : (-1 : Int) = (-1 : Int) := by decide
  refine g_icmpYes X5 hx hby d11_38 (pc' := 47) (teq (show (-1 : Int32) = (-1 : Int32) from Int32.toInt_inj.mp hc38)).1 (by decide) (by decide) ?_
  refine g_iload X5 hx hby d11_47 (pc' := 49) rfl rfl ?_
  refine g_iconst X5 hx hby d11_49 (pc' := 50) rfl (z := (1 : Int32)) rfl ?_
  refine g_iadd X5 hx hby d11_50 (pc' := 51) rfl (z := (1 : Int32)) rfl ?_
  refine g_aloadN X5 hx hby d11_51 (pc' := 52) rfl rfl rfl ?_
  refine g_getf X5 hx hby hZ hown (host := "") (Or.inl (wi hw 26 rfl)) Via.refl e5 P5 d11_52 (pc' := 55) rfl ?_
  intro T6 X6 e6
  refine Go.alen X6 hx hZ e6 P14 (z := (0 : Int32)) rfl (hb hby d11_55) (pc' := 56) rfl ?_
  refine Go.callS X6 hx hZ hown (wi hw 92 rfl) (wi hw 93 rfl) (wi hw 47 rfl) (wi hw 94 rfl) (by decide) e6 (argsL := [(.int (1 : Int32)), (.int (0 : Int32))]) (rest := []) (W := 0) (rm_maxI l Z a0 hw (1 : Int32) (0 : Int32) h0 n0 Z0 (by decide)) (hb hby d11_56) (by rw [hml]; rfl) rfl pd1 rfl rfl (by decide) (by decide) (by decide) (by decide) ?_
  intro v7 T7 L7 X7 hQ7
  obtain ⟨rfl, Nq7, hh7⟩ := hQ7
  have N7 := Fr.app N0 Nq7
  refine Go.push (pc' := 59) rfl ?_
  refine g_iload X7 hx hby d11_59 (pc' := 61) rfl rfl ?_
  refine g_isub X7 hx hby d11_61 (pc' := 62) rfl (z := (0 : Int32)) rfl ?_
  refine Go.newarr X7 hx hZ (n := 0) (cap := 0) (ty := .long) rfl (wi hw 1 rfl) hh7 (by decide) rfl (by decide) (by decide) (by decide) (by decide) (hb hby d11_62) (pc' := 64) rfl ?_
  intro T8 h8 b8 X8 e8 E8 hb8 V8
  have g9 : n0 ≤ b8 := by rw [hb8]; exact Z0
  have s10 : h0.size ≤ b8 := by rw [hb8]; exact K0.1
  have V11 : ArF Z h8 b8 .long 0 (fun i => .long ((fun _ => (0 : Int64)) i)) := V8
  refine g_astore X8 hx hby d11_64 (pc' := 66) rfl rfl (L' := #[.val (.ref a1), .val (.ref y1), .val .null, .val .null, .val (.int (1 : Int32)), .val (.ref b8), .val (.int (0 : Int32)), .unset, .unset, .unset]) rfl ?_
  refine g_iconst X8 hx hby d11_66 (pc' := 67) rfl (z := (0 : Int32)) rfl ?_
  refine g_istore X8 hx hby d11_67 (pc' := 69) rfl (L' := #[.val (.ref a1), .val (.ref y1), .val .null, .val .null, .val (.int (1 : Int32)), .val (.ref b8), .val (.int (0 : Int32)), .unset, .unset, .unset]) rfl ?_
  refine g_iconst X8 hx hby d11_69 (pc' := 70) rfl (z := (0 : Int32)) rfl ?_
  refine g_istore X8 hx hby d11_70 (pc' := 72) rfl (L' := #[.val (.ref a1), .val (.ref y1), .val .null, .val .null, .val (.int (1 : Int32)), .val (.ref b8), .val (.int (0 : Int32)), .val (.int (0 : Int32)), .unset, .unset]) rfl ?_
  refine g_iload X8 hx hby d11_72 (pc' := 74) rfl rfl ?_
  refine g_aloadN X8 hx hby d11_74 (pc' := 75) rfl rfl rfl ?_
  have f12 := P3.ext E8
  refine g_getf X8 hx hby hZ hown (host := "") (Or.inl (wi hw 35 rfl)) Via.refl e8 f12 d11_75 (pc' := 78) rfl ?_
  intro T13 X13 e13
  have hc78 : (0 : Int) < (1 : Int) := by decide
  refine g_icmpNo X13 hx hby d11_78 (pc' := 81) (tlt (show (0 : Int32) < (1 : Int32) from Int32.lt_iff_toInt_lt.mpr hc78)).2.1 rfl ?_
  refine g_aloadN X13 hx hby d11_81 (pc' := 82) rfl rfl rfl ?_
  have f14 := P1.ext E8
  refine g_getf X13 hx hby hZ hown (host := "") (Or.inl (wi hw 13 rfl)) Via.refl e13 f14 d11_82 (pc' := 85) rfl ?_
  intro T15 X15 e15
  refine g_iload X15 hx hby d11_85 (pc' := 87) rfl rfl ?_
  have f16 := P12.ext E8
  refine Go.iaload X15 hx hZ e15 f16 (k := 0) rfl (by decide) (v := (-1 : Int32)) rfl (hb hby d11_87) (pc' := 88) rfl ?_
  refine g_iconst X15 hx hby d11_88 (pc' := 89) rfl (z := (-1 : Int32)) rfl ?_
  have hc89 : (-1 : Int) = (-1 : Int) := by decide
  refine g_icmpNo X15 hx hby d11_89 (pc' := 92) (teq (show (-1 : Int32) = (-1 : Int32) from Int32.toInt_inj.mp hc89)).2 rfl ?_
  refine g_goto X15 hx hby d11_92 (pc' := 218) (by decide) (by decide) ?_
  refine g_iinc X15 hx hby d11_218 (pc' := 221) rfl rfl (L' := #[.val (.ref a1), .val (.ref y1), .val .null, .val .null, .val (.int (1 : Int32)), .val (.ref b8), .val (.int (0 : Int32)), .val (.int (1 : Int32)), .unset, .unset]) rfl ?_
  refine g_goto X15 hx hby d11_221 (pc' := 72) (by decide) (by decide) ?_
  refine g_iload X15 hx hby d11_72 (pc' := 74) rfl rfl ?_
  refine g_aloadN X15 hx hby d11_74 (pc' := 75) rfl rfl rfl ?_
  refine g_getf X15 hx hby hZ hown (host := "") (Or.inl (wi hw 35 rfl)) Via.refl e15 f12 d11_75 (pc' := 78) rfl ?_
  intro T17 X17 e17
  have hc78 : ¬ ((1 : Int) < (1 : Int)) := by decide
  refine g_icmpYes X17 hx hby d11_78 (pc' := 224) (flt (show ¬ ((1 : Int32) < (1 : Int32)) from fun q => hc78 (Int32.lt_iff_toInt_lt.mp q))).2.1 (by decide) (by decide) ?_
  refine g_aloadN X17 hx hby d11_224 (pc' := 225) rfl rfl rfl ?_
  refine g_aload X17 hx hby d11_225 (pc' := 227) rfl rfl rfl ?_
  have f18 := P5.ext E8
  have f19 := P0.ext E8
  refine g_putf X17 hx hby hZ hown (host := "") (Or.inl (wi hw 26 rfl)) Via.refl e17 f18 f19 (Or.inl (wi hw 27 rfl)) (wi hw 5 rfl) (ty := (.array .long)) (by decide) rfl rfl d11_227 (pc' := 230) rfl ?_
  intro T20 h20 X20 e20 W20 F20
  refine g_aloadN X20 hx hby d11_230 (pc' := 231) rfl rfl rfl ?_
  refine g_iload X20 hx hby d11_231 (pc' := 233) rfl rfl ?_
  have f21 := (f12.other W20 (Or.inr (sn62 hw)))
  have f22 := f19.wr W20
  refine g_putf X20 hx hby hZ hown (host := "") (Or.inl (wi hw 35 rfl)) Via.refl e20 f21 f22 (Or.inl (wi hw 36 rfl)) (wi hw 5 rfl) (ty := .int) (by decide) rfl rfl d11_233 (pc' := 236) rfl ?_
  intro T23 h23 X23 e23 W23 F23
  refine g_aloadN X23 hx hby d11_236 (pc' := 237) rfl rfl rfl ?_
  have f24 := ((f14.other W20 (Or.inr (sn33 hw))).other W23 (Or.inr (sn83 hw)))
  refine g_getf X23 hx hby hZ hown (host := "") (Or.inl (wi hw 13 rfl)) Via.refl e23 f24 d11_237 (pc' := 240) rfl ?_
  intro T25 X25 e25
  have f26 := ((f16.other W20 ne_x1_a1).other W23 ne_x1_a1)
  refine Go.alen X25 hx hZ e25 f26 (z := (4 : Int32)) rfl (hb hby d11_240) (pc' := 241) rfl ?_
  refine g_aloadN X25 hx hby d11_241 (pc' := 242) rfl rfl rfl ?_
  refine g_getf X25 hx hby hZ hown (host := "") (Or.inl (wi hw 35 rfl)) Via.refl e25 F23 d11_242 (pc' := 245) rfl ?_
  intro T27 X27 e27
  refine Go.callS X27 hx hZ hown (wi hw 79 rfl) (wi hw 80 rfl) (wi hw 39 rfl) (wi hw 81 rfl) (by decide) e27 (argsL := [(.int (4 : Int32)), (.int (0 : Int32))]) (rest := []) (W := 0) (rm_trim l Z a0 hw (0 : Int32) h23 n0 (Nat.le_trans (Nat.le_trans (Nat.le_trans Z0 E8.1) (Nat.le_of_eq (Wr.size W20).symm)) (Nat.le_of_eq (Wr.size W23).symm)) ) (hb hby d11_245) (by rw [hml]; rfl) rfl pd1 rfl rfl (by decide) (by decide) (by decide) (by decide) ?_
  intro v28 T28 L28 X28 hQ28
  obtain ⟨rfl, Nq28, hh28⟩ := hQ28
  have N28 := Fr.app (Fr.snoc X23 (Fr.snoc X20 N7 ge_a1) ge_a1) Nq28
  refine Go.push (pc' := 248) rfl ?_
  refine g_istore X28 hx hby d11_248 (pc' := 250) rfl (L' := #[.val (.ref a1), .val (.ref y1), .val .null, .val .null, .val (.int (1 : Int32)), .val (.ref b8), .val (.int (0 : Int32)), .val (.int (4 : Int32)), .unset, .unset]) rfl ?_
  refine g_iload X28 hx hby d11_250 (pc' := 252) rfl rfl ?_
  refine g_aloadN X28 hx hby d11_252 (pc' := 253) rfl rfl rfl ?_
  refine g_getf X28 hx hby hZ hown (host := "") (Or.inl (wi hw 13 rfl)) Via.refl hh28 f24 d11_253 (pc' := 256) rfl ?_
  intro T29 X29 e29
  refine Go.alen X29 hx hZ e29 f26 (z := (4 : Int32)) rfl (hb hby d11_256) (pc' := 257) rfl ?_
  have hc257 : ¬ ((4 : Int) < (4 : Int)) := by decide
  refine g_icmpYes X29 hx hby d11_257 (pc' := 266) (flt (show ¬ ((4 : Int32) < (4 : Int32)) from fun q => hc257 (Int32.lt_iff_toInt_lt.mp q))).2.1 (by decide) (by decide) ?_
  refine Go.retV X29 hx hlk hret (hb hby d11_266) rfl (by decide) (by decide) ?_
  have f30 := (((P13.ext E8).other W20 ne_x2_a1).other W23 ne_x2_a1)
  have f31 := (F20.other W23 (Or.inr (sn101 hw)))
  rw [e29]
  have f32 := (((P2.ext E8).other W20 (Or.inr (sn39 hw))).other W23 (Or.inr (sn86 hw)))
  have f33 := (((P4.ext E8).other W20 (Or.inr (sn70 hw))).other W23 (Or.inr (sn80 hw)))
  have f34 := (((P6.ext E8).other W20 (Or.inr (sn78 hw))).other W23 (Or.inr (sn81 hw)))
  have f35 := (((P7.ext E8).other W20 (Or.inr (sn27 hw))).other W23 (Or.inr (sn98 hw)))
  have f36 := (((P8.ext E8).other W20 (Or.inr (sn44 hw))).other W23 (Or.inr (sn89 hw)))
  have f37 := (((P9.ext E8).other W20 (Or.inr (sn48 hw))).other W23 (Or.inr (sn92 hw)))
  have f38 := (((P10.ext E8).other W20 (Or.inr (sn51 hw))).other W23 (Or.inr (sn95 hw)))
  have f39 := (((P11.ext E8).other W20 (Or.inr (sn53 hw))).other W23 (Or.inr (sn104 hw)))
  have ne40 : a1 ≠ b8 := Nat.ne_of_lt (by rw [hb8]; exact P11.lt)
  have f41 := ((V11.other W20 (Ne.symm ne40)).other W23 (Ne.symm ne40))
  exact ⟨b8, rfl, N28, (((K0.ext E8).wr W20 (Or.inl (List.mem_of_getElem? (i := 0) rfl))).wr W23 (Or.inl (List.mem_of_getElem? (i := 0) rfl))), g9, s10, f24, f32, F23, f33, f31, f34, f35, f36, f37, f38, f39, f26, f30, f41⟩
theorem ef_rm_compactB10 (m : MethodId) (x0 : Addr) (x1 : Addr) : entryFrame m #[(.ref x0), (.ref x1), .null, .null] 10 = mkF m 0 #[.val (.ref x0), .val (.ref x1), .val .null, .val .null, .unset, .unset, .unset, .unset, .unset, .unset] [] := by first | (simp [entryFrame, mkF, argsToLocals, Value.category]; done) | rfl
abbrev Q_rm_compactB10 (Z : State) (a1 : Addr) (y1 : Addr) (x1 : Addr) (x2 : Addr) (x7 : Addr) (kd : Int32) (x3 : Addr) (x4 : Addr) (x5 : Addr) (x6 : Addr) (g7 : Nat → Int64) (h0 : Heap) (n0 : Nat) : Option Value → Heap → List Loc → Prop := fun v h L => v = none ∧ Fr n0 L ∧ Keep h0 h [a1, x1, x2] ∧ Fld Z h a1 kES "sources" "[I" (.ref x1) ∧ Fld Z h a1 kES "targets" "[I" (.ref x2) ∧ Fld Z h a1 kES "bound" "I" (.int (2 : Int32)) ∧ Fld Z h a1 kES "count" "I" (.int (2 : Int32)) ∧ Fld Z h a1 kES "keptNumbers" "[J" (.ref x7) ∧ Fld Z h a1 kES "nextNumber" "J" (.long (3 : Int64)) ∧ Fld Z h a1 kES "keyed" "Z" (.int kd) ∧ Fld Z h a1 kES "sourcePositions" "[I" (.ref x3) ∧ Fld Z h a1 kES "targetPositions" "[I" (.ref x4) ∧ Fld Z h a1 kES "weights" "[D" (.ref x5) ∧ Fld Z h a1 kES "keys" "[I" (.ref x6) ∧ ArF Z h x1 .int 4 (fun i => .int ((own_l [(0 : Int32), (0 : Int32), (0 : Int32), (0 : Int32)]) i)) ∧ ArF Z h x2 .int 4 (fun i => .int ((own_l [(0 : Int32), (0 : Int32), (0 : Int32), (0 : Int32)]) i))
set_option maxRecDepth 65536 in
set_option maxHeartbeats 40000000 in
theorem rm_compactB10 (l : Launch) (Z : State) (a0 : Array Value) (hw : ∀ d ∈ tables_1, d.before a0 Z = true) (a1 : Addr) (y1 : Addr) (x1 : Addr) (x2 : Addr) (x7 : Addr) (kd : Int32) (x3 : Addr) (x4 : Addr) (x5 : Addr) (x6 : Addr) (g7 : Nat → Int64) (h0 : Heap) (n0 : Nat) (Z0 : n0 ≤ h0.size) (P0 : Exa Z h0 a1 kES) (P1 : Fld Z h0 a1 kES "sources" "[I" (.ref x1)) (P2 : Fld Z h0 a1 kES "targets" "[I" (.ref x2)) (P3 : Fld Z h0 a1 kES "bound" "I" (.int (2 : Int32))) (P4 : Fld Z h0 a1 kES "count" "I" (.int (2 : Int32))) (P5 : Fld Z h0 a1 kES "keptNumbers" "[J" (.ref x7)) (P6 : Fld Z h0 a1 kES "nextNumber" "J" (.long (3 : Int64))) (P7 : Fld Z h0 a1 kES "keyed" "Z" (.int kd)) (P8 : Fld Z h0 a1 kES "sourcePositions" "[I" (.ref x3)) (P9 : Fld Z h0 a1 kES "targetPositions" "[I" (.ref x4)) (P10 : Fld Z h0 a1 kES "weights" "[D" (.ref x5)) (P11 : Fld Z h0 a1 kES "keys" "[I" (.ref x6)) (P12 : ArF Z h0 x1 .int 4 (fun i => .int ((own_l [(0 : Int32), (0 : Int32), (0 : Int32), (0 : Int32)]) i))) (P13 : ArF Z h0 x2 .int 4 (fun i => .int ((own_l [(0 : Int32), (0 : Int32), (0 : Int32), (0 : Int32)]) i))) (P14 : ArF Z h0 x7 .long 0 (fun i => .long (g7 i))) (P15 : ArF Z h0 y1 .int 1 (fun i => .int ((own_l [(0 : Int32)]) i))) (ne_x1_a1 : x1 ≠ a1) (ne_x2_a1 : x2 ≠ a1) (ne_x1_x2 : x1 ≠ x2) (ne_x7_a1 : x7 ≠ a1) (ne_x7_x1 : x7 ≠ x1) (ne_x7_x2 : x7 ≠ x2) (ne_y1_a1 : y1 ≠ a1) (ne_y1_x1 : y1 ≠ x1) (ne_y1_x2 : y1 ≠ x2) (ge_a1 : n0 ≤ a1) (ge_x1 : n0 ≤ x1) (ge_x2 : n0 ≤ x2) :
    Con l Z (⟨"com/example/edgewise/edgewise/EdgeSlots", "compact", "([ILcom/example/edgewise/edgewise/Adjacency;Lcom/example/edgewise/edgewise/Adjacency;)V"⟩ : MethodName) prog_12_method_20_code 10 none ({ frames := 1, cells := 0, slots := 0, locals := 13 } : Room) #[(.ref a1), (.ref y1), .null, .null] h0 (Q_rm_compactB10 Z a1 y1 x1 x2 x7 kd x3 x4 x5 x6 g7 h0 n0) := by
  refine meet (y := (⟨"com/example/edgewise/edgewise/EdgeSlots", "compact", "([ILcom/example/edgewise/edgewise/Adjacency;Lcom/example/edgewise/edgewise/Adjacency;)V"⟩ : MethodName)) (Q := Q_rm_compactB10 Z a1 y1 x1 x2 x7 kd x3 x4 x5 x6 g7 h0 n0) (plainFor_of_name pn_com_example_edgewise_edgewise_EdgeSlots) (fun m => ef_rm_compactB10 m a1 y1) ?_
  intro p e s m below meth c T0 hx hby hml hZ hown hnm hret hlk X0 e0
  have N0 := Fr.nil n0
  have K0 := Keep.refl h0 [a1, x1, x2]
  refine g_aloadN X0 hx hby d11_0 (pc' := 1) rfl rfl rfl ?_
  refine g_getf X0 hx hby hZ hown (host := "") (Or.inl (wi hw 35 rfl)) Via.refl e0 P3 d11_1 (pc' := 4) rfl ?_
  intro T1 X1 e1
  refine g_aloadN X1 hx hby d11_4 (pc' := 5) rfl rfl rfl ?_
  refine g_getf X1 hx hby hZ hown (host := "") (Or.inl (wi hw 70 rfl)) Via.refl e1 P4 d11_5 (pc' := 8) rfl ?_
  intro T2 X2 e2
  refine g_isub X2 hx hby d11_8 (pc' := 9) rfl (z := (0 : Int32)) rfl ?_
  refine g_istore X2 hx hby d11_9 (pc' := 11) rfl (L' := #[.val (.ref a1), .val (.ref y1), .val .null, .val .null, .val (.int (0 : Int32)), .unset, .unset, .unset, .unset, .unset]) rfl ?_
  refine g_aloadN X2 hx hby d11_11 (pc' := 12) rfl rfl rfl ?_
  refine g_getf X2 hx hby hZ hown (host := "") (Or.inl (wi hw 26 rfl)) Via.refl e2 P5 d11_12 (pc' := 15) rfl ?_
  intro T3 X3 e3
  refine g_astore X3 hx hby d11_15 (pc' := 17) rfl rfl (L' := #[.val (.ref a1), .val (.ref y1), .val .null, .val .null, .val (.int (0 : Int32)), .val (.ref x7), .unset, .unset, .unset, .unset]) rfl ?_
  refine g_iload X3 hx hby d11_17 (pc' := 19) rfl rfl ?_
  have hc19 : ¬ ((0 : Int) < (0 : Int)) := by decide
  refine g_ifYes X3 hx hby d11_19 (pc' := 66) (flt (show ¬ ((0 : Int32) < (0 : Int32)) from fun q => hc19 (Int32.lt_iff_toInt_lt.mp q))).2.2.2 (by decide) (by decide) ?_
  refine g_iconst X3 hx hby d11_66 (pc' := 67) rfl (z := (0 : Int32)) rfl ?_
  refine g_istore X3 hx hby d11_67 (pc' := 69) rfl (L' := #[.val (.ref a1), .val (.ref y1), .val .null, .val .null, .val (.int (0 : Int32)), .val (.ref x7), .val (.int (0 : Int32)), .unset, .unset, .unset]) rfl ?_
  refine g_iconst X3 hx hby d11_69 (pc' := 70) rfl (z := (0 : Int32)) rfl ?_
  refine g_istore X3 hx hby d11_70 (pc' := 72) rfl (L' := #[.val (.ref a1), .val (.ref y1), .val .null, .val .null, .val (.int (0 : Int32)), .val (.ref x7), .val (.int (0 : Int32)), .val (.int (0 : Int32)), .unset, .unset]) rfl ?_
  refine g_iload X3 hx hby d11_72 (pc' := 74) rfl rfl ?_
  refine g_aloadN X3 hx hby d11_74 (pc' := 75) rfl rfl rfl ?_
  refine g_getf X3 hx hby hZ hown (host := "") (Or.inl (wi hw 35 rfl)) Via.refl e3 P3 d11_75 (pc' := 78) rfl ?_
  intro T4 X4 e4
  have hc78 : (0 : Int) < (2 : Int) := by decide
  refine g_icmpNo X4 hx hby d11_78 (pc' := 81) (tlt (show (0 : Int32) < (2 : Int32) from Int32.lt_iff_toInt_lt.mpr hc78)).2.1 rfl ?_
  refine g_aloadN X4 hx hby d11_81 (pc' := 82) rfl rfl rfl ?_
  refine g_getf X4 hx hby hZ hown (host := "") (Or.inl (wi hw 13 rfl)) Via.refl e4 P1 d11_82 (pc' := 85) rfl ?_
  intro T5 X5 e5
  refine g_iload X5 hx hby d11_85 (pc' := 87) rfl rfl ?_
  refine Go.iaload X5 hx hZ e5 P12 (k := 0) rfl (by decide) (v := (0 : Int32)) rfl (hb hby d11_87) (pc' := 88) rfl ?_
  refine g_iconst X5 hx hby d11_88 (pc' := 89) rfl (z := (-1 : Int32)) rfl ?_
  have hc89 : ¬ ((0 : Int) = (-1 : Int)) := by decide
  refine g_icmpYes X5 hx hby d11_89 (pc' := 95) (feq (show ¬ ((0 : Int32) = (-1 : Int32)) from fun q => hc89 (congrArg Int32.toInt q))).2 (by decide) (by decide) ?_
  refine g_aloadN X5 hx hby d11_95 (pc' := 96) rfl rfl rfl ?_
  refine g_aloadN X5 hx hby d11_96 (pc' := 97) rfl rfl rfl ?_
  refine g_getf X5 hx hby hZ hown (host := "") (Or.inl (wi hw 13 rfl)) Via.refl e5 P1 d11_97 (pc' := 100) rfl ?_
  intro T6 X6 e6
  refine g_iload X6 hx hby d11_100 (pc' := 102) rfl rfl ?_
  refine Go.iaload X6 hx hZ e6 P12 (k := 0) rfl (by decide) (v := (0 : Int32)) rfl (hb hby d11_102) (pc' := 103) rfl ?_
  refine Go.iaload X6 hx hZ e6 P15 (k := 0) rfl (by decide) (v := (0 : Int32)) rfl (hb hby d11_103) (pc' := 104) rfl ?_
  refine g_istore X6 hx hby d11_104 (pc' := 106) rfl (L' := #[.val (.ref a1), .val (.ref y1), .val .null, .val .null, .val (.int (0 : Int32)), .val (.ref x7), .val (.int (0 : Int32)), .val (.int (0 : Int32)), .val (.int (0 : Int32)), .unset]) rfl ?_
  refine g_aloadN X6 hx hby d11_106 (pc' := 107) rfl rfl rfl ?_
  refine g_aloadN X6 hx hby d11_107 (pc' := 108) rfl rfl rfl ?_
  refine g_getf X6 hx hby hZ hown (host := "") (Or.inl (wi hw 15 rfl)) Via.refl e6 P2 d11_108 (pc' := 111) rfl ?_
  intro T7 X7 e7
  refine g_iload X7 hx hby d11_111 (pc' := 113) rfl rfl ?_
  refine Go.iaload X7 hx hZ e7 P13 (k := 0) rfl (by decide) (v := (0 : Int32)) rfl (hb hby d11_113) (pc' := 114) rfl ?_
  refine Go.iaload X7 hx hZ e7 P15 (k := 0) rfl (by decide) (v := (0 : Int32)) rfl (hb hby d11_114) (pc' := 115) rfl ?_
  refine g_istore X7 hx hby d11_115 (pc' := 117) rfl (L' := #[.val (.ref a1), .val (.ref y1), .val .null, .val .null, .val (.int (0 : Int32)), .val (.ref x7), .val (.int (0 : Int32)), .val (.int (0 : Int32)), .val (.int (0 : Int32)), .val (.int (0 : Int32))]) rfl ?_
  refine g_iload X7 hx hby d11_117 (pc' := 119) rfl rfl ?_
  have hc119 : ¬ ((0 : Int) < (0 : Int)) := by decide
  refine g_ifYes X7 hx hby d11_119 (pc' := 141) (flt (show ¬ ((0 : Int32) < (0 : Int32)) from fun q => hc119 (Int32.lt_iff_toInt_lt.mp q))).2.2.2 (by decide) (by decide) ?_
  refine g_iload X7 hx hby d11_141 (pc' := 143) rfl rfl ?_
  refine g_iload X7 hx hby d11_143 (pc' := 145) rfl rfl ?_
  have hc145 : (0 : Int) = (0 : Int) := by decide
  refine g_icmpYes X7 hx hby d11_145 (pc' := 197) (teq (show (0 : Int32) = (0 : Int32) from Int32.toInt_inj.mp hc145)).1 (by decide) (by decide) ?_
  refine g_aloadN X7 hx hby d11_197 (pc' := 198) rfl rfl rfl ?_
  refine g_getf X7 hx hby hZ hown (host := "") (Or.inl (wi hw 13 rfl)) Via.refl e7 P1 d11_198 (pc' := 201) rfl ?_
  intro T8 X8 e8
  refine g_iload X8 hx hby d11_201 (pc' := 203) rfl rfl ?_
  refine g_iload X8 hx hby d11_203 (pc' := 205) rfl rfl ?_
  refine Go.iastore X8 hx hZ e8 P12 (k := 0) rfl (by decide) (hb hby d11_205) (pc' := 206) rfl ?_
  intro T9 h9 X9 e9 W9 V9
  refine g_aloadN X9 hx hby d11_206 (pc' := 207) rfl rfl rfl ?_
  have f10 := (P2.other W9 (Or.inl (Ne.symm ne_x1_a1)))
  refine g_getf X9 hx hby hZ hown (host := "") (Or.inl (wi hw 15 rfl)) Via.refl e9 f10 d11_207 (pc' := 210) rfl ?_
  intro T11 X11 e11
  refine g_iload X11 hx hby d11_210 (pc' := 212) rfl rfl ?_
  refine g_iload X11 hx hby d11_212 (pc' := 214) rfl rfl ?_
  have f12 := (P13.other W9 (Ne.symm ne_x1_x2))
  refine Go.iastore X11 hx hZ e11 f12 (k := 0) rfl (by decide) (hb hby d11_214) (pc' := 215) rfl ?_
  intro T13 h13 X13 e13 W13 V13
  refine g_iinc X13 hx hby d11_215 (pc' := 218) rfl rfl (L' := #[.val (.ref a1), .val (.ref y1), .val .null, .val .null, .val (.int (0 : Int32)), .val (.ref x7), .val (.int (1 : Int32)), .val (.int (0 : Int32)), .val (.int (0 : Int32)), .val (.int (0 : Int32))]) rfl ?_
  refine g_iinc X13 hx hby d11_218 (pc' := 221) rfl rfl (L' := #[.val (.ref a1), .val (.ref y1), .val .null, .val .null, .val (.int (0 : Int32)), .val (.ref x7), .val (.int (1 : Int32)), .val (.int (1 : Int32)), .val (.int (0 : Int32)), .val (.int (0 : Int32))]) rfl ?_
  refine g_goto X13 hx hby d11_221 (pc' := 72) (by decide) (by decide) ?_
  refine g_iload X13 hx hby d11_72 (pc' := 74) rfl rfl ?_
  refine g_aloadN X13 hx hby d11_74 (pc' := 75) rfl rfl rfl ?_
  have f14 := ((P3.other W9 (Or.inl (Ne.symm ne_x1_a1))).other W13 (Or.inl (Ne.symm ne_x2_a1)))
  refine g_getf X13 hx hby hZ hown (host := "") (Or.inl (wi hw 35 rfl)) Via.refl e13 f14 d11_75 (pc' := 78) rfl ?_
  intro T15 X15 e15
  have hc78 : (1 : Int) < (2 : Int) := by decide
  refine g_icmpNo X15 hx hby d11_78 (pc' := 81) (tlt (show (1 : Int32) < (2 : Int32) from Int32.lt_iff_toInt_lt.mpr hc78)).2.1 rfl ?_
  refine g_aloadN X15 hx hby d11_81 (pc' := 82) rfl rfl rfl ?_
  have f16 := ((P1.other W9 (Or.inl (Ne.symm ne_x1_a1))).other W13 (Or.inl (Ne.symm ne_x2_a1)))
  refine g_getf X15 hx hby hZ hown (host := "") (Or.inl (wi hw 13 rfl)) Via.refl e15 f16 d11_82 (pc' := 85) rfl ?_
  intro T17 X17 e17
  refine g_iload X17 hx hby d11_85 (pc' := 87) rfl rfl ?_
  have f18 := V9.other W13 ne_x1_x2
  refine Go.iaload X17 hx hZ e17 f18 (k := 1) rfl (by decide) (v := (0 : Int32)) rfl (hb hby d11_87) (pc' := 88) rfl ?_
  refine g_iconst X17 hx hby d11_88 (pc' := 89) rfl (z := (-1 : Int32)) rfl ?_
  have hc89 : ¬ ((0 : Int) = (-1 : Int)) := by decide
  refine g_icmpYes X17 hx hby d11_89 (pc' := 95) (feq (show ¬ ((0 : Int32) = (-1 : Int32)) from fun q => hc89 (congrArg Int32.toInt q))).2 (by decide) (by decide) ?_
  refine g_aloadN X17 hx hby d11_95 (pc' := 96) rfl rfl rfl ?_
  refine g_aloadN X17 hx hby d11_96 (pc' := 97) rfl rfl rfl ?_
  refine g_getf X17 hx hby hZ hown (host := "") (Or.inl (wi hw 13 rfl)) Via.refl e17 f16 d11_97 (pc' := 100) rfl ?_
  intro T19 X19 e19
  refine g_iload X19 hx hby d11_100 (pc' := 102) rfl rfl ?_
  refine Go.iaload X19 hx hZ e19 f18 (k := 1) rfl (by decide) (v := (0 : Int32)) rfl (hb hby d11_102) (pc' := 103) rfl ?_
  have f20 := ((P15.other W9 ne_y1_x1).other W13 ne_y1_x2)
  refine Go.iaload X19 hx hZ e19 f20 (k := 0) rfl (by decide) (v := (0 : Int32)) rfl (hb hby d11_103) (pc' := 104) rfl ?_
  refine g_istore X19 hx hby d11_104 (pc' := 106) rfl (L' := #[.val (.ref a1), .val (.ref y1), .val .null, .val .null, .val (.int (0 : Int32)), .val (.ref x7), .val (.int (1 : Int32)), .val (.int (1 : Int32)), .val (.int (0 : Int32)), .val (.int (0 : Int32))]) rfl ?_
  refine g_aloadN X19 hx hby d11_106 (pc' := 107) rfl rfl rfl ?_
  refine g_aloadN X19 hx hby d11_107 (pc' := 108) rfl rfl rfl ?_
  have f21 := (f10.other W13 (Or.inl (Ne.symm ne_x2_a1)))
  refine g_getf X19 hx hby hZ hown (host := "") (Or.inl (wi hw 15 rfl)) Via.refl e19 f21 d11_108 (pc' := 111) rfl ?_
  intro T22 X22 e22
  refine g_iload X22 hx hby d11_111 (pc' := 113) rfl rfl ?_
  refine Go.iaload X22 hx hZ e22 V13 (k := 1) rfl (by decide) (v := (0 : Int32)) rfl (hb hby d11_113) (pc' := 114) rfl ?_
  refine Go.iaload X22 hx hZ e22 f20 (k := 0) rfl (by decide) (v := (0 : Int32)) rfl (hb hby d11_114) (pc' := 115) rfl ?_
  refine g_istore X22 hx hby d11_115 (pc' := 117) rfl (L' := #[.val (.ref a1), .val (.ref y1), .val .null, .val .null, .val (.int (0 : Int32)), .val (.ref x7), .val (.int (1 : Int32)), .val (.int (1 : Int32)), .val (.int (0 : Int32)), .val (.int (0 : Int32))]) rfl ?_
  refine g_iload X22 hx hby d11_117 (pc' := 119) rfl rfl ?_
  have hc119 : ¬ ((0 : Int) < (0 : Int)) := by decide
  refine g_ifYes X22 hx hby d11_119 (pc' := 141) (flt (show ¬ ((0 : Int32) < (0 : Int32)) from fun q => hc119 (Int32.lt_iff_toInt_lt.mp q))).2.2.2 (by decide) (by decide) ?_
  refine g_iload X22 hx hby d11_141 (pc' := 143) rfl rfl ?_
  refine g_iload X22 hx hby d11_143 (pc' := 145) rfl rfl ?_
  have hc145 : (1 : Int) = (1 : Int) := by decide
  refine g_icmpYes X22 hx hby d11_145 (pc' := 197) (teq (show (1 : Int32) = (1 : Int32) from Int32.toInt_inj.mp hc145)).1 (by decide) (by decide) ?_
  refine g_aloadN X22 hx hby d11_197 (pc' := 198) rfl rfl rfl ?_
  refine g_getf X22 hx hby hZ hown (host := "") (Or.inl (wi hw 13 rfl)) Via.refl e22 f16 d11_198 (pc' := 201) rfl ?_
  intro T23 X23 e23
  refine g_iload X23 hx hby d11_201 (pc' := 203) rfl rfl ?_
  refine g_iload X23 hx hby d11_203 (pc' := 205) rfl rfl ?_
  refine Go.iastore X23 hx hZ e23 f18 (k := 1) rfl (by decide) (hb hby d11_205) (pc' := 206) rfl ?_
  intro T24 h24 X24 e24 W24 V24
  refine g_aloadN X24 hx hby d11_206 (pc' := 207) rfl rfl rfl ?_
  have f25 := (f21.other W24 (Or.inl (Ne.symm ne_x1_a1)))
  refine g_getf X24 hx hby hZ hown (host := "") (Or.inl (wi hw 15 rfl)) Via.refl e24 f25 d11_207 (pc' := 210) rfl ?_
  intro T26 X26 e26
  refine g_iload X26 hx hby d11_210 (pc' := 212) rfl rfl ?_
  refine g_iload X26 hx hby d11_212 (pc' := 214) rfl rfl ?_
  have f27 := (V13.other W24 (Ne.symm ne_x1_x2))
  refine Go.iastore X26 hx hZ e26 f27 (k := 1) rfl (by decide) (hb hby d11_214) (pc' := 215) rfl ?_
  intro T28 h28 X28 e28 W28 V28
  have z29 : n0 ≤ h28.size := (Nat.le_trans (Nat.le_trans (Nat.le_trans (Nat.le_trans Z0 (Nat.le_of_eq (Wr.size W9).symm)) (Nat.le_of_eq (Wr.size W13).symm)) (Nat.le_of_eq (Wr.size W24).symm)) (Nat.le_of_eq (Wr.size W28).symm))
  have K30 : Keep h0 h28 [a1, x1, x2] := ((((K0.wr W9 (Or.inl (List.mem_of_getElem? (i := 1) rfl))).wr W13 (Or.inl (List.mem_of_getElem? (i := 2) rfl))).wr W24 (Or.inl (List.mem_of_getElem? (i := 1) rfl))).wr W28 (Or.inl (List.mem_of_getElem? (i := 2) rfl)))
  refine g_iinc X28 hx hby d11_215 (pc' := 218) rfl rfl (L' := #[.val (.ref a1), .val (.ref y1), .val .null, .val .null, .val (.int (0 : Int32)), .val (.ref x7), .val (.int (2 : Int32)), .val (.int (1 : Int32)), .val (.int (0 : Int32)), .val (.int (0 : Int32))]) rfl ?_
  refine g_iinc X28 hx hby d11_218 (pc' := 221) rfl rfl (L' := #[.val (.ref a1), .val (.ref y1), .val .null, .val .null, .val (.int (0 : Int32)), .val (.ref x7), .val (.int (2 : Int32)), .val (.int (2 : Int32)), .val (.int (0 : Int32)), .val (.int (0 : Int32))]) rfl ?_
  refine g_goto X28 hx hby d11_221 (pc' := 72) (by decide) (by decide) ?_
  refine g_iload X28 hx hby d11_72 (pc' := 74) rfl rfl ?_
  refine g_aloadN X28 hx hby d11_74 (pc' := 75) rfl rfl rfl ?_
  have f31 := ((f14.other W24 (Or.inl (Ne.symm ne_x1_a1))).other W28 (Or.inl (Ne.symm ne_x2_a1)))
  refine g_getf X28 hx hby hZ hown (host := "") (Or.inl (wi hw 35 rfl)) Via.refl e28 f31 d11_75 (pc' := 78) rfl ?_
  intro T32 X32 e32
  have hc78 : ¬ ((2 : Int) < (2 : Int)) := by decide
  refine g_icmpYes X32 hx hby d11_78 (pc' := 224) (flt (show ¬ ((2 : Int32) < (2 : Int32)) from fun q => hc78 (Int32.lt_iff_toInt_lt.mp q))).2.1 (by decide) (by decide) ?_
  refine g_aloadN X32 hx hby d11_224 (pc' := 225) rfl rfl rfl ?_
  refine g_aload X32 hx hby d11_225 (pc' := 227) rfl rfl rfl ?_
  have f33 := ((((P5.other W9 (Or.inl (Ne.symm ne_x1_a1))).other W13 (Or.inl (Ne.symm ne_x2_a1))).other W24 (Or.inl (Ne.symm ne_x1_a1))).other W28 (Or.inl (Ne.symm ne_x2_a1)))
  have f34 := ((((P0.wr W9).wr W13).wr W24).wr W28)
  refine g_putf X32 hx hby hZ hown (host := "") (Or.inl (wi hw 26 rfl)) Via.refl e32 f33 f34 (Or.inl (wi hw 27 rfl)) (wi hw 5 rfl) (ty := (.array .long)) (by decide) rfl rfl d11_227 (pc' := 230) rfl ?_
  intro T35 h35 X35 e35 W35 F35
  refine g_aloadN X35 hx hby d11_230 (pc' := 231) rfl rfl rfl ?_
  refine g_iload X35 hx hby d11_231 (pc' := 233) rfl rfl ?_
  have f36 := (f31.other W35 (Or.inr (sn62 hw)))
  have f37 := f34.wr W35
  refine g_putf X35 hx hby hZ hown (host := "") (Or.inl (wi hw 35 rfl)) Via.refl e35 f36 f37 (Or.inl (wi hw 36 rfl)) (wi hw 5 rfl) (ty := .int) (by decide) rfl rfl d11_233 (pc' := 236) rfl ?_
  intro T38 h38 X38 e38 W38 F38
  have N38 := (Fr.snoc X38 (Fr.snoc X35 (Fr.snoc X28 (Fr.snoc X24 (Fr.snoc X13 (Fr.snoc X9 N0 ge_x1) ge_x2) ge_x1) ge_x2) ge_a1) ge_a1)
  refine g_aloadN X38 hx hby d11_236 (pc' := 237) rfl rfl rfl ?_
  have f39 := ((((f16.other W24 (Or.inl (Ne.symm ne_x1_a1))).other W28 (Or.inl (Ne.symm ne_x2_a1))).other W35 (Or.inr (sn33 hw))).other W38 (Or.inr (sn83 hw)))
  refine g_getf X38 hx hby hZ hown (host := "") (Or.inl (wi hw 13 rfl)) Via.refl e38 f39 d11_237 (pc' := 240) rfl ?_
  intro T40 X40 e40
  have f41 := (((V24.other W28 ne_x1_x2).other W35 ne_x1_a1).other W38 ne_x1_a1)
  refine Go.alen X40 hx hZ e40 f41 (z := (4 : Int32)) rfl (hb hby d11_240) (pc' := 241) rfl ?_
  refine g_aloadN X40 hx hby d11_241 (pc' := 242) rfl rfl rfl ?_
  refine g_getf X40 hx hby hZ hown (host := "") (Or.inl (wi hw 35 rfl)) Via.refl e40 F38 d11_242 (pc' := 245) rfl ?_
  intro T42 X42 e42
  refine Go.callS X42 hx hZ hown (wi hw 79 rfl) (wi hw 80 rfl) (wi hw 39 rfl) (wi hw 81 rfl) (by decide) e42 (argsL := [(.int (4 : Int32)), (.int (2 : Int32))]) (rest := []) (W := 0) (rm_trim l Z a0 hw (2 : Int32) h38 n0 (Nat.le_trans (Nat.le_trans z29 (Nat.le_of_eq (Wr.size W35).symm)) (Nat.le_of_eq (Wr.size W38).symm)) ) (hb hby d11_245) (by rw [hml]; rfl) rfl pd1 rfl rfl (by decide) (by decide) (by decide) (by decide) ?_
  intro v43 T43 L43 X43 hQ43
  obtain ⟨rfl, Nq43, hh43⟩ := hQ43
  have N43 := Fr.app N38 Nq43
  refine Go.push (pc' := 248) rfl ?_
  refine g_istore X43 hx hby d11_248 (pc' := 250) rfl (L' := #[.val (.ref a1), .val (.ref y1), .val .null, .val .null, .val (.int (0 : Int32)), .val (.ref x7), .val (.int (2 : Int32)), .val (.int (4 : Int32)), .val (.int (0 : Int32)), .val (.int (0 : Int32))]) rfl ?_
  refine g_iload X43 hx hby d11_250 (pc' := 252) rfl rfl ?_
  refine g_aloadN X43 hx hby d11_252 (pc' := 253) rfl rfl rfl ?_
  refine g_getf X43 hx hby hZ hown (host := "") (Or.inl (wi hw 13 rfl)) Via.refl hh43 f39 d11_253 (pc' := 256) rfl ?_
  intro T44 X44 e44
  refine Go.alen X44 hx hZ e44 f41 (z := (4 : Int32)) rfl (hb hby d11_256) (pc' := 257) rfl ?_
  have hc257 : ¬ ((4 : Int) < (4 : Int)) := by decide
  refine g_icmpYes X44 hx hby d11_257 (pc' := 266) (flt (show ¬ ((4 : Int32) < (4 : Int32)) from fun q => hc257 (Int32.lt_iff_toInt_lt.mp q))).2.1 (by decide) (by decide) ?_
  refine Go.retV X44 hx hlk hret (hb hby d11_266) rfl (by decide) (by decide) ?_
  have V45 : ArF Z h38 x1 .int 4 (fun i => .int ((own_l [(0 : Int32), (0 : Int32), (0 : Int32), (0 : Int32)]) i)) := f41.congr (fun i hi => congrArg Value.int ((by decide : ∀ i, i < 4 → (own_l [(0 : Int32), (0 : Int32), (0 : Int32), (0 : Int32)]) i = (upI (upI (own_l [(0 : Int32), (0 : Int32), (0 : Int32), (0 : Int32)]) 0 (0 : Int32)) 1 (0 : Int32)) i) i hi))
  have f46 := ((V28.other W35 ne_x2_a1).other W38 ne_x2_a1)
  have V47 : ArF Z h38 x2 .int 4 (fun i => .int ((own_l [(0 : Int32), (0 : Int32), (0 : Int32), (0 : Int32)]) i)) := f46.congr (fun i hi => congrArg Value.int ((by decide : ∀ i, i < 4 → (own_l [(0 : Int32), (0 : Int32), (0 : Int32), (0 : Int32)]) i = (upI (upI (own_l [(0 : Int32), (0 : Int32), (0 : Int32), (0 : Int32)]) 0 (0 : Int32)) 1 (0 : Int32)) i) i hi))
  rw [e44]
  have f48 := (((f25.other W28 (Or.inl (Ne.symm ne_x2_a1))).other W35 (Or.inr (sn39 hw))).other W38 (Or.inr (sn86 hw)))
  have f49 := ((((((P4.other W9 (Or.inl (Ne.symm ne_x1_a1))).other W13 (Or.inl (Ne.symm ne_x2_a1))).other W24 (Or.inl (Ne.symm ne_x1_a1))).other W28 (Or.inl (Ne.symm ne_x2_a1))).other W35 (Or.inr (sn70 hw))).other W38 (Or.inr (sn80 hw)))
  have f50 := (F35.other W38 (Or.inr (sn101 hw)))
  have f51 := ((((((P6.other W9 (Or.inl (Ne.symm ne_x1_a1))).other W13 (Or.inl (Ne.symm ne_x2_a1))).other W24 (Or.inl (Ne.symm ne_x1_a1))).other W28 (Or.inl (Ne.symm ne_x2_a1))).other W35 (Or.inr (sn78 hw))).other W38 (Or.inr (sn81 hw)))
  have f52 := ((((((P7.other W9 (Or.inl (Ne.symm ne_x1_a1))).other W13 (Or.inl (Ne.symm ne_x2_a1))).other W24 (Or.inl (Ne.symm ne_x1_a1))).other W28 (Or.inl (Ne.symm ne_x2_a1))).other W35 (Or.inr (sn27 hw))).other W38 (Or.inr (sn98 hw)))
  have f53 := ((((((P8.other W9 (Or.inl (Ne.symm ne_x1_a1))).other W13 (Or.inl (Ne.symm ne_x2_a1))).other W24 (Or.inl (Ne.symm ne_x1_a1))).other W28 (Or.inl (Ne.symm ne_x2_a1))).other W35 (Or.inr (sn44 hw))).other W38 (Or.inr (sn89 hw)))
  have f54 := ((((((P9.other W9 (Or.inl (Ne.symm ne_x1_a1))).other W13 (Or.inl (Ne.symm ne_x2_a1))).other W24 (Or.inl (Ne.symm ne_x1_a1))).other W28 (Or.inl (Ne.symm ne_x2_a1))).other W35 (Or.inr (sn48 hw))).other W38 (Or.inr (sn92 hw)))
  have f55 := ((((((P10.other W9 (Or.inl (Ne.symm ne_x1_a1))).other W13 (Or.inl (Ne.symm ne_x2_a1))).other W24 (Or.inl (Ne.symm ne_x1_a1))).other W28 (Or.inl (Ne.symm ne_x2_a1))).other W35 (Or.inr (sn51 hw))).other W38 (Or.inr (sn95 hw)))
  have f56 := ((((((P11.other W9 (Or.inl (Ne.symm ne_x1_a1))).other W13 (Or.inl (Ne.symm ne_x2_a1))).other W24 (Or.inl (Ne.symm ne_x1_a1))).other W28 (Or.inl (Ne.symm ne_x2_a1))).other W35 (Or.inr (sn53 hw))).other W38 (Or.inr (sn104 hw)))
  exact ⟨rfl, N43, ((K30.wr W35 (Or.inl (List.mem_of_getElem? (i := 0) rfl))).wr W38 (Or.inl (List.mem_of_getElem? (i := 0) rfl))), f39, f48, F38, f49, f50, f51, f52, f53, f54, f55, f56, V45, V47⟩
theorem ef_rm_compactB11 (m : MethodId) (x0 : Addr) (x1 : Addr) : entryFrame m #[(.ref x0), (.ref x1), .null, .null] 10 = mkF m 0 #[.val (.ref x0), .val (.ref x1), .val .null, .val .null, .unset, .unset, .unset, .unset, .unset, .unset] [] := by first | (simp [entryFrame, mkF, argsToLocals, Value.category]; done) | rfl
abbrev Q_rm_compactB11 (Z : State) (a1 : Addr) (y1 : Addr) (x1 : Addr) (x2 : Addr) (x7 : Addr) (kd : Int32) (x3 : Addr) (x4 : Addr) (x5 : Addr) (x6 : Addr) (g7 : Nat → Int64) (h0 : Heap) (n0 : Nat) : Option Value → Heap → List Loc → Prop := fun v h L => ∃ (b1 : Addr), v = none ∧ Fr n0 L ∧ Keep h0 h [a1, x1, x2] ∧ n0 ≤ b1 ∧ h0.size ≤ b1 ∧ Fld Z h a1 kES "sources" "[I" (.ref x1) ∧ Fld Z h a1 kES "targets" "[I" (.ref x2) ∧ Fld Z h a1 kES "bound" "I" (.int (1 : Int32)) ∧ Fld Z h a1 kES "count" "I" (.int (1 : Int32)) ∧ Fld Z h a1 kES "keptNumbers" "[J" (.ref b1) ∧ Fld Z h a1 kES "nextNumber" "J" (.long (3 : Int64)) ∧ Fld Z h a1 kES "keyed" "Z" (.int kd) ∧ Fld Z h a1 kES "sourcePositions" "[I" (.ref x3) ∧ Fld Z h a1 kES "targetPositions" "[I" (.ref x4) ∧ Fld Z h a1 kES "weights" "[D" (.ref x5) ∧ Fld Z h a1 kES "keys" "[I" (.ref x6) ∧ ArF Z h x1 .int 4 (fun i => .int ((own_l [(0 : Int32), (-1 : Int32), (0 : Int32), (0 : Int32)]) i)) ∧ ArF Z h x2 .int 4 (fun i => .int ((own_l [(0 : Int32), (-1 : Int32), (0 : Int32), (0 : Int32)]) i)) ∧ ArF Z h b1 .long 1 (fun i => .long ((own_lj [(1 : Int64)]) i))
set_option maxRecDepth 65536 in
set_option maxHeartbeats 40000000 in
theorem rm_compactB11 (l : Launch) (Z : State) (a0 : Array Value) (hw : ∀ d ∈ tables_1, d.before a0 Z = true) (a1 : Addr) (y1 : Addr) (x1 : Addr) (x2 : Addr) (x7 : Addr) (kd : Int32) (x3 : Addr) (x4 : Addr) (x5 : Addr) (x6 : Addr) (g7 : Nat → Int64) (h0 : Heap) (n0 : Nat) (Z0 : n0 ≤ h0.size) (P0 : Exa Z h0 a1 kES) (P1 : Fld Z h0 a1 kES "sources" "[I" (.ref x1)) (P2 : Fld Z h0 a1 kES "targets" "[I" (.ref x2)) (P3 : Fld Z h0 a1 kES "bound" "I" (.int (2 : Int32))) (P4 : Fld Z h0 a1 kES "count" "I" (.int (1 : Int32))) (P5 : Fld Z h0 a1 kES "keptNumbers" "[J" (.ref x7)) (P6 : Fld Z h0 a1 kES "nextNumber" "J" (.long (3 : Int64))) (P7 : Fld Z h0 a1 kES "keyed" "Z" (.int kd)) (P8 : Fld Z h0 a1 kES "sourcePositions" "[I" (.ref x3)) (P9 : Fld Z h0 a1 kES "targetPositions" "[I" (.ref x4)) (P10 : Fld Z h0 a1 kES "weights" "[D" (.ref x5)) (P11 : Fld Z h0 a1 kES "keys" "[I" (.ref x6)) (P12 : ArF Z h0 x1 .int 4 (fun i => .int ((own_l [(0 : Int32), (-1 : Int32), (0 : Int32), (0 : Int32)]) i))) (P13 : ArF Z h0 x2 .int 4 (fun i => .int ((own_l [(0 : Int32), (-1 : Int32), (0 : Int32), (0 : Int32)]) i))) (P14 : ArF Z h0 x7 .long 0 (fun i => .long (g7 i))) (P15 : ArF Z h0 y1 .int 1 (fun i => .int ((own_l [(0 : Int32)]) i))) (ne_x1_a1 : x1 ≠ a1) (ne_x2_a1 : x2 ≠ a1) (ne_x1_x2 : x1 ≠ x2) (ne_x7_a1 : x7 ≠ a1) (ne_x7_x1 : x7 ≠ x1) (ne_x7_x2 : x7 ≠ x2) (ne_y1_a1 : y1 ≠ a1) (ne_y1_x1 : y1 ≠ x1) (ne_y1_x2 : y1 ≠ x2) (ge_a1 : n0 ≤ a1) (ge_x1 : n0 ≤ x1) (ge_x2 : n0 ≤ x2) :
    Con l Z (⟨"com/example/edgewise/edgewise/EdgeSlots", "compact", "([ILcom/example/edgewise/edgewise/Adjacency;Lcom/example/edgewise/edgewise/Adjacency;)V"⟩ : MethodName) prog_12_method_20_code 10 none ({ frames := 1, cells := 1, slots := 1, locals := 15 } : Room) #[(.ref a1), (.ref y1), .null, .null] h0 (Q_rm_compactB11 Z a1 y1 x1 x2 x7 kd x3 x4 x5 x6 g7 h0 n0) := by
  refine meet (y := (⟨"com/example/edgewise/edgewise/EdgeSlots", "compact", "([ILcom/example/edgewise/edgewise/Adjacency;Lcom/example/edgewise/edgewise/Adjacency;)V"⟩ : MethodName)) (Q := Q_rm_compactB11 Z a1 y1 x1 x2 x7 kd x3 x4 x5 x6 g7 h0 n0) (plainFor_of_name pn_com_example_edgewise_edgewise_EdgeSlots) (fun m => ef_rm_compactB11 m a1 y1) ?_
  intro p e s m below meth c T0 hx hby hml hZ hown hnm hret hlk X0 e0
  have N0 := Fr.nil n0
  have K0 := Keep.refl h0 [a1, x1, x2]
  refine g_aloadN X0 hx hby d11_0 (pc' := 1) rfl rfl rfl ?_
  refine g_getf X0 hx hby hZ hown (host := "") (Or.inl (wi hw 35 rfl)) Via.refl e0 P3 d11_1 (pc' := 4) rfl ?_
  intro T1 X1 e1
  refine g_aloadN X1 hx hby d11_4 (pc' := 5) rfl rfl rfl ?_
  refine g_getf X1 hx hby hZ hown (host := "") (Or.inl (wi hw 70 rfl)) Via.refl e1 P4 d11_5 (pc' := 8) rfl ?_
  intro T2 X2 e2
  refine g_isub X2 hx hby d11_8 (pc' := 9) rfl (z := (1 : Int32)) rfl ?_
  refine g_istore X2 hx hby d11_9 (pc' := 11) rfl (L' := #[.val (.ref a1), .val (.ref y1), .val .null, .val .null, .val (.int (1 : Int32)), .unset, .unset, .unset, .unset, .unset]) rfl ?_
  refine g_aloadN X2 hx hby d11_11 (pc' := 12) rfl rfl rfl ?_
  refine g_getf X2 hx hby hZ hown (host := "") (Or.inl (wi hw 26 rfl)) Via.refl e2 P5 d11_12 (pc' := 15) rfl ?_
  intro T3 X3 e3
  refine g_astore X3 hx hby d11_15 (pc' := 17) rfl rfl (L' := #[.val (.ref a1), .val (.ref y1), .val .null, .val .null, .val (.int (1 : Int32)), .val (.ref x7), .unset, .unset, .unset, .unset]) rfl ?_
  refine g_iload X3 hx hby d11_17 (pc' := 19) rfl rfl ?_
  have hc19 : (0 : Int) < (1 : Int) := by decide
  refine g_ifNo X3 hx hby d11_19 (pc' := 22) (tlt (show (0 : Int32) < (1 : Int32) from Int32.lt_iff_toInt_lt.mpr hc19)).2.2.2 rfl ?_
  refine g_aloadN X3 hx hby d11_22 (pc' := 23) rfl rfl rfl ?_
  refine g_getf X3 hx hby hZ hown (host := "") (Or.inl (wi hw 35 rfl)) Via.refl e3 P3 d11_23 (pc' := 26) rfl ?_
  intro T4 X4 e4
  refine g_iconst X4 hx hby d11_26 (pc' := 27) rfl (z := (1 : Int32)) rfl ?_
  refine g_isub X4 hx hby d11_27 (pc' := 28) rfl (z := (1 : Int32)) rfl ?_
  refine g_istore X4 hx hby d11_28 (pc' := 30) rfl (L' := #[.val (.ref a1), .val (.ref y1), .val .null, .val .null, .val (.int (1 : Int32)), .val (.ref x7), .val (.int (1 : Int32)), .unset, .unset, .unset]) rfl ?_
  refine g_aloadN X4 hx hby d11_30 (pc' := 31) rfl rfl rfl ?_
  refine g_getf X4 hx hby hZ hown (host := "") (Or.inl (wi hw 13 rfl)) Via.refl e4 P1 d11_31 (pc' := 34) rfl ?_
  intro T5 X5 e5
  refine g_iload X5 hx hby d11_34 (pc' := 36) rfl rfl ?_
  refine Go.iaload X5 hx hZ e5 P12 (k := 1) rfl (by decide) (v := (-1 : Int32)) rfl (hb hby d11_36) (pc' := 37) rfl ?_
  refine g_iconst X5 hx hby d11_37 (pc' := 38) rfl (z := (-1 : Int32)) rfl ?_
  have hc38 : (-1 : Int) = (-1 : Int) := by decide
  refine g_icmpYes X5 hx hby d11_38 (pc' := 47) (teq (show (-1 : Int32) = (-1 : Int32) from Int32.toInt_inj.mp hc38)).1 (by decide) (by decide) ?_
  refine g_iload X5 hx hby d11_47 (pc' := 49) rfl rfl ?_
  refine g_iconst X5 hx hby d11_49 (pc' := 50) rfl (z := (1 : Int32)) rfl ?_
  refine g_iadd X5 hx hby d11_50 (pc' := 51) rfl (z := (2 : Int32)) rfl ?_
  refine g_aloadN X5 hx hby d11_51 (pc' := 52) rfl rfl rfl ?_
  refine g_getf X5 hx hby hZ hown (host := "") (Or.inl (wi hw 26 rfl)) Via.refl e5 P5 d11_52 (pc' := 55) rfl ?_
  intro T6 X6 e6
  refine Go.alen X6 hx hZ e6 P14 (z := (0 : Int32)) rfl (hb hby d11_55) (pc' := 56) rfl ?_
  refine Go.callS X6 hx hZ hown (wi hw 92 rfl) (wi hw 93 rfl) (wi hw 47 rfl) (wi hw 94 rfl) (by decide) e6 (argsL := [(.int (2 : Int32)), (.int (0 : Int32))]) (rest := []) (W := 0) (rm_maxI l Z a0 hw (2 : Int32) (0 : Int32) h0 n0 Z0 (by decide)) (hb hby d11_56) (by rw [hml]; rfl) rfl pd1 rfl rfl (by decide) (by decide) (by decide) (by decide) ?_
  intro v7 T7 L7 X7 hQ7
  obtain ⟨rfl, Nq7, hh7⟩ := hQ7
  have N7 := Fr.app N0 Nq7
  refine Go.push (pc' := 59) rfl ?_
  refine g_iload X7 hx hby d11_59 (pc' := 61) rfl rfl ?_
  refine g_isub X7 hx hby d11_61 (pc' := 62) rfl (z := (1 : Int32)) rfl ?_
  refine Go.newarr X7 hx hZ (n := 1) (cap := 1) (ty := .long) rfl (wi hw 1 rfl) hh7 (by decide) rfl (by decide) (by decide) (by decide) (by decide) (hb hby d11_62) (pc' := 64) rfl ?_
  intro T8 h8 b8 X8 e8 E8 hb8 V8
  have g9 : n0 ≤ b8 := by rw [hb8]; exact Z0
  have s10 : h0.size ≤ b8 := by rw [hb8]; exact K0.1
  have V11 : ArF Z h8 b8 .long 1 (fun i => .long ((fun _ => (0 : Int64)) i)) := V8
  refine g_astore X8 hx hby d11_64 (pc' := 66) rfl rfl (L' := #[.val (.ref a1), .val (.ref y1), .val .null, .val .null, .val (.int (1 : Int32)), .val (.ref b8), .val (.int (1 : Int32)), .unset, .unset, .unset]) rfl ?_
  refine g_iconst X8 hx hby d11_66 (pc' := 67) rfl (z := (0 : Int32)) rfl ?_
  refine g_istore X8 hx hby d11_67 (pc' := 69) rfl (L' := #[.val (.ref a1), .val (.ref y1), .val .null, .val .null, .val (.int (1 : Int32)), .val (.ref b8), .val (.int (0 : Int32)), .unset, .unset, .unset]) rfl ?_
  refine g_iconst X8 hx hby d11_69 (pc' := 70) rfl (z := (0 : Int32)) rfl ?_
  refine g_istore X8 hx hby d11_70 (pc' := 72) rfl (L' := #[.val (.ref a1), .val (.ref y1), .val .null, .val .null, .val (.int (1 : Int32)), .val (.ref b8), .val (.int (0 : Int32)), .val (.int (0 : Int32)), .unset, .unset]) rfl ?_
  refine g_iload X8 hx hby d11_72 (pc' := 74) rfl rfl ?_
  refine g_aloadN X8 hx hby d11_74 (pc' := 75) rfl rfl rfl ?_
  have f12 := P3.ext E8
  refine g_getf X8 hx hby hZ hown (host := "") (Or.inl (wi hw 35 rfl)) Via.refl e8 f12 d11_75 (pc' := 78) rfl ?_
  intro T13 X13 e13
  have hc78 : (0 : Int) < (2 : Int) := by decide
  refine g_icmpNo X13 hx hby d11_78 (pc' := 81) (tlt (show (0 : Int32) < (2 : Int32) from Int32.lt_iff_toInt_lt.mpr hc78)).2.1 rfl ?_
  refine g_aloadN X13 hx hby d11_81 (pc' := 82) rfl rfl rfl ?_
  have f14 := P1.ext E8
  refine g_getf X13 hx hby hZ hown (host := "") (Or.inl (wi hw 13 rfl)) Via.refl e13 f14 d11_82 (pc' := 85) rfl ?_
  intro T15 X15 e15
  refine g_iload X15 hx hby d11_85 (pc' := 87) rfl rfl ?_
  have f16 := P12.ext E8
  refine Go.iaload X15 hx hZ e15 f16 (k := 0) rfl (by decide) (v := (0 : Int32)) rfl (hb hby d11_87) (pc' := 88) rfl ?_
  refine g_iconst X15 hx hby d11_88 (pc' := 89) rfl (z := (-1 : Int32)) rfl ?_
  have hc89 : ¬ ((0 : Int) = (-1 : Int)) := by decide
  refine g_icmpYes X15 hx hby d11_89 (pc' := 95) (feq (show ¬ ((0 : Int32) = (-1 : Int32)) from fun q => hc89 (congrArg Int32.toInt q))).2 (by decide) (by decide) ?_
  refine g_aloadN X15 hx hby d11_95 (pc' := 96) rfl rfl rfl ?_
  refine g_aloadN X15 hx hby d11_96 (pc' := 97) rfl rfl rfl ?_
  refine g_getf X15 hx hby hZ hown (host := "") (Or.inl (wi hw 13 rfl)) Via.refl e15 f14 d11_97 (pc' := 100) rfl ?_
  intro T17 X17 e17
  refine g_iload X17 hx hby d11_100 (pc' := 102) rfl rfl ?_
  refine Go.iaload X17 hx hZ e17 f16 (k := 0) rfl (by decide) (v := (0 : Int32)) rfl (hb hby d11_102) (pc' := 103) rfl ?_
  have f18 := P15.ext E8
  refine Go.iaload X17 hx hZ e17 f18 (k := 0) rfl (by decide) (v := (0 : Int32)) rfl (hb hby d11_103) (pc' := 104) rfl ?_
  refine g_istore X17 hx hby d11_104 (pc' := 106) rfl (L' := #[.val (.ref a1), .val (.ref y1), .val .null, .val .null, .val (.int (1 : Int32)), .val (.ref b8), .val (.int (0 : Int32)), .val (.int (0 : Int32)), .val (.int (0 : Int32)), .unset]) rfl ?_
  refine g_aloadN X17 hx hby d11_106 (pc' := 107) rfl rfl rfl ?_
  refine g_aloadN X17 hx hby d11_107 (pc' := 108) rfl rfl rfl ?_
  have f19 := P2.ext E8
  refine g_getf X17 hx hby hZ hown (host := "") (Or.inl (wi hw 15 rfl)) Via.refl e17 f19 d11_108 (pc' := 111) rfl ?_
  intro T20 X20 e20
  refine g_iload X20 hx hby d11_111 (pc' := 113) rfl rfl ?_
  have f21 := P13.ext E8
  refine Go.iaload X20 hx hZ e20 f21 (k := 0) rfl (by decide) (v := (0 : Int32)) rfl (hb hby d11_113) (pc' := 114) rfl ?_
  refine Go.iaload X20 hx hZ e20 f18 (k := 0) rfl (by decide) (v := (0 : Int32)) rfl (hb hby d11_114) (pc' := 115) rfl ?_
  refine g_istore X20 hx hby d11_115 (pc' := 117) rfl (L' := #[.val (.ref a1), .val (.ref y1), .val .null, .val .null, .val (.int (1 : Int32)), .val (.ref b8), .val (.int (0 : Int32)), .val (.int (0 : Int32)), .val (.int (0 : Int32)), .val (.int (0 : Int32))]) rfl ?_
  refine g_iload X20 hx hby d11_117 (pc' := 119) rfl rfl ?_
  have hc119 : (0 : Int) < (1 : Int) := by decide
  refine g_ifNo X20 hx hby d11_119 (pc' := 122) (tlt (show (0 : Int32) < (1 : Int32) from Int32.lt_iff_toInt_lt.mpr hc119)).2.2.2 rfl ?_
  refine g_iload X20 hx hby d11_122 (pc' := 124) rfl rfl ?_
  refine g_aload X20 hx hby d11_124 (pc' := 126) rfl rfl rfl ?_
  refine Go.alen X20 hx hZ e20 V11 (z := (1 : Int32)) rfl (hb hby d11_126) (pc' := 127) rfl ?_
  have hc127 : (0 : Int) < (1 : Int) := by decide
  refine g_icmpNo X20 hx hby d11_127 (pc' := 130) (tlt (show (0 : Int32) < (1 : Int32) from Int32.lt_iff_toInt_lt.mpr hc127)).2.1 rfl ?_
  refine g_aload X20 hx hby d11_130 (pc' := 132) rfl rfl rfl ?_
  refine g_iload X20 hx hby d11_132 (pc' := 134) rfl rfl ?_
  refine g_aloadN X20 hx hby d11_134 (pc' := 135) rfl rfl rfl ?_
  refine g_iload X20 hx hby d11_135 (pc' := 137) rfl rfl ?_
  have f23 := P5.ext E8
  have f24 := P6.ext E8
  have f25 := P14.ext E8
  have f26 := P0.ext E8
  refine Go.callV X20 hx hZ hown (wi hw 95 rfl) (wi hw 83 rfl) (notFace_of_selects (args := #[]) (mvT hZ (wi hw 85 rfl))) (wi hw 85 rfl) (wi hw 84 rfl) (wi hw 6 rfl) (wi hw 86 rfl) (by decide) e20 (a := a1) (argsL := [(.int (0 : Int32))]) (rest := [(.int (0 : Int32)), (.ref b8)]) (W := 2) f26 (rm_numA l Z a0 hw a1 (0 : Int32) x7 (2 : Int32) (3 : Int64) 0 g7 h8 n0 (Nat.le_trans Z0 E8.1) f23 f12 f24 f25 (by decide)) (hb hby d11_137) (by rw [hml]; rfl) rfl pd6 rfl rfl (by decide) (by decide) (by decide) (by decide) ?_
  intro v22 T22 L22 X22 hQ22
  obtain ⟨rfl, Nq22, hh22⟩ := hQ22
  have N22 := Fr.app N7 Nq22
  show Go p.tables e below s _ _ _ (T22.setTop (mkF m 140 #[.val (.ref a1), .val (.ref y1), .val .null, .val .null, .val (.int (1 : Int32)), .val (.ref b8), .val (.int (0 : Int32)), .val (.int (0 : Int32)), .val (.int (0 : Int32)), .val (.int (0 : Int32))] [(.long (1 : Int64)), (.int (0 : Int32)), (.ref b8)]))
  refine Go.lastore X22 hx hZ hh22 V11 (k := 0) rfl (by decide) (hb hby d11_140) (pc' := 141) rfl ?_
  intro T27 h27 X27 e27 W27 V27
  refine g_iload X27 hx hby d11_141 (pc' := 143) rfl rfl ?_
  refine g_iload X27 hx hby d11_143 (pc' := 145) rfl rfl ?_
  have hc145 : (0 : Int) = (0 : Int) := by decide
  refine g_icmpYes X27 hx hby d11_145 (pc' := 197) (teq (show (0 : Int32) = (0 : Int32) from Int32.toInt_inj.mp hc145)).1 (by decide) (by decide) ?_
  refine g_aloadN X27 hx hby d11_197 (pc' := 198) rfl rfl rfl ?_
  have ne28 : a1 ≠ b8 := Nat.ne_of_lt (by rw [hb8]; exact P11.lt)
  have f29 := (f14.other W27 (Or.inl ne28))
  refine g_getf X27 hx hby hZ hown (host := "") (Or.inl (wi hw 13 rfl)) Via.refl e27 f29 d11_198 (pc' := 201) rfl ?_
  intro T30 X30 e30
  refine g_iload X30 hx hby d11_201 (pc' := 203) rfl rfl ?_
  refine g_iload X30 hx hby d11_203 (pc' := 205) rfl rfl ?_
  have ne31 : x1 ≠ b8 := Nat.ne_of_lt (by rw [hb8]; exact P12.lt)
  have f32 := f16.other W27 ne31
  refine Go.iastore X30 hx hZ e30 f32 (k := 0) rfl (by decide) (hb hby d11_205) (pc' := 206) rfl ?_
  intro T33 h33 X33 e33 W33 V33
  refine g_aloadN X33 hx hby d11_206 (pc' := 207) rfl rfl rfl ?_
  have f34 := ((f19.other W27 (Or.inl ne28)).other W33 (Or.inl (Ne.symm ne_x1_a1)))
  refine g_getf X33 hx hby hZ hown (host := "") (Or.inl (wi hw 15 rfl)) Via.refl e33 f34 d11_207 (pc' := 210) rfl ?_
  intro T35 X35 e35
  refine g_iload X35 hx hby d11_210 (pc' := 212) rfl rfl ?_
  refine g_iload X35 hx hby d11_212 (pc' := 214) rfl rfl ?_
  have ne36 : x2 ≠ b8 := Nat.ne_of_lt (by rw [hb8]; exact P13.lt)
  have f37 := ((f21.other W27 ne36).other W33 (Ne.symm ne_x1_x2))
  refine Go.iastore X35 hx hZ e35 f37 (k := 0) rfl (by decide) (hb hby d11_214) (pc' := 215) rfl ?_
  intro T38 h38 X38 e38 W38 V38
  have z39 : n0 ≤ h38.size := (Nat.le_trans (Nat.le_trans (Nat.le_trans (Nat.le_trans Z0 E8.1) (Nat.le_of_eq (Wr.size W27).symm)) (Nat.le_of_eq (Wr.size W33).symm)) (Nat.le_of_eq (Wr.size W38).symm))
  refine g_iinc X38 hx hby d11_215 (pc' := 218) rfl rfl (L' := #[.val (.ref a1), .val (.ref y1), .val .null, .val .null, .val (.int (1 : Int32)), .val (.ref b8), .val (.int (1 : Int32)), .val (.int (0 : Int32)), .val (.int (0 : Int32)), .val (.int (0 : Int32))]) rfl ?_
  refine g_iinc X38 hx hby d11_218 (pc' := 221) rfl rfl (L' := #[.val (.ref a1), .val (.ref y1), .val .null, .val .null, .val (.int (1 : Int32)), .val (.ref b8), .val (.int (1 : Int32)), .val (.int (1 : Int32)), .val (.int (0 : Int32)), .val (.int (0 : Int32))]) rfl ?_
  refine g_goto X38 hx hby d11_221 (pc' := 72) (by decide) (by decide) ?_
  refine g_iload X38 hx hby d11_72 (pc' := 74) rfl rfl ?_
  refine g_aloadN X38 hx hby d11_74 (pc' := 75) rfl rfl rfl ?_
  have f40 := (((f12.other W27 (Or.inl ne28)).other W33 (Or.inl (Ne.symm ne_x1_a1))).other W38 (Or.inl (Ne.symm ne_x2_a1)))
  refine g_getf X38 hx hby hZ hown (host := "") (Or.inl (wi hw 35 rfl)) Via.refl e38 f40 d11_75 (pc' := 78) rfl ?_
  intro T41 X41 e41
  have hc78 : (1 : Int) < (2 : Int) := by decide
  refine g_icmpNo X41 hx hby d11_78 (pc' := 81) (tlt (show (1 : Int32) < (2 : Int32) from Int32.lt_iff_toInt_lt.mpr hc78)).2.1 rfl ?_
  refine g_aloadN X41 hx hby d11_81 (pc' := 82) rfl rfl rfl ?_
  have f42 := ((f29.other W33 (Or.inl (Ne.symm ne_x1_a1))).other W38 (Or.inl (Ne.symm ne_x2_a1)))
  refine g_getf X41 hx hby hZ hown (host := "") (Or.inl (wi hw 13 rfl)) Via.refl e41 f42 d11_82 (pc' := 85) rfl ?_
  intro T43 X43 e43
  refine g_iload X43 hx hby d11_85 (pc' := 87) rfl rfl ?_
  have f44 := V33.other W38 ne_x1_x2
  refine Go.iaload X43 hx hZ e43 f44 (k := 1) rfl (by decide) (v := (-1 : Int32)) rfl (hb hby d11_87) (pc' := 88) rfl ?_
  refine g_iconst X43 hx hby d11_88 (pc' := 89) rfl (z := (-1 : Int32)) rfl ?_
  have hc89 : (-1 : Int) = (-1 : Int) := by decide
  refine g_icmpNo X43 hx hby d11_89 (pc' := 92) (teq (show (-1 : Int32) = (-1 : Int32) from Int32.toInt_inj.mp hc89)).2 rfl ?_
  refine g_goto X43 hx hby d11_92 (pc' := 218) (by decide) (by decide) ?_
  refine g_iinc X43 hx hby d11_218 (pc' := 221) rfl rfl (L' := #[.val (.ref a1), .val (.ref y1), .val .null, .val .null, .val (.int (1 : Int32)), .val (.ref b8), .val (.int (1 : Int32)), .val (.int (2 : Int32)), .val (.int (0 : Int32)), .val (.int (0 : Int32))]) rfl ?_
  refine g_goto X43 hx hby d11_221 (pc' := 72) (by decide) (by decide) ?_
  refine g_iload X43 hx hby d11_72 (pc' := 74) rfl rfl ?_
  refine g_aloadN X43 hx hby d11_74 (pc' := 75) rfl rfl rfl ?_
  refine g_getf X43 hx hby hZ hown (host := "") (Or.inl (wi hw 35 rfl)) Via.refl e43 f40 d11_75 (pc' := 78) rfl ?_
  intro T45 X45 e45
  have hc78 : ¬ ((2 : Int) < (2 : Int)) := by decide
  refine g_icmpYes X45 hx hby d11_78 (pc' := 224) (flt (show ¬ ((2 : Int32) < (2 : Int32)) from fun q => hc78 (Int32.lt_iff_toInt_lt.mp q))).2.1 (by decide) (by decide) ?_
  refine g_aloadN X45 hx hby d11_224 (pc' := 225) rfl rfl rfl ?_
  refine g_aload X45 hx hby d11_225 (pc' := 227) rfl rfl rfl ?_
  have f46 := (((f23.other W27 (Or.inl ne28)).other W33 (Or.inl (Ne.symm ne_x1_a1))).other W38 (Or.inl (Ne.symm ne_x2_a1)))
  have f47 := (((f26.wr W27).wr W33).wr W38)
  refine g_putf X45 hx hby hZ hown (host := "") (Or.inl (wi hw 26 rfl)) Via.refl e45 f46 f47 (Or.inl (wi hw 27 rfl)) (wi hw 5 rfl) (ty := (.array .long)) (by decide) rfl rfl d11_227 (pc' := 230) rfl ?_
  intro T48 h48 X48 e48 W48 F48
  refine g_aloadN X48 hx hby d11_230 (pc' := 231) rfl rfl rfl ?_
  refine g_iload X48 hx hby d11_231 (pc' := 233) rfl rfl ?_
  have f49 := (f40.other W48 (Or.inr (sn62 hw)))
  have f50 := f47.wr W48
  refine g_putf X48 hx hby hZ hown (host := "") (Or.inl (wi hw 35 rfl)) Via.refl e48 f49 f50 (Or.inl (wi hw 36 rfl)) (wi hw 5 rfl) (ty := .int) (by decide) rfl rfl d11_233 (pc' := 236) rfl ?_
  intro T51 h51 X51 e51 W51 F51
  have K52 : Keep h0 h51 [a1, x1, x2] := ((((((K0.ext E8).wr W27 (Or.inr s10)).wr W33 (Or.inl (List.mem_of_getElem? (i := 1) rfl))).wr W38 (Or.inl (List.mem_of_getElem? (i := 2) rfl))).wr W48 (Or.inl (List.mem_of_getElem? (i := 0) rfl))).wr W51 (Or.inl (List.mem_of_getElem? (i := 0) rfl)))
  refine g_aloadN X51 hx hby d11_236 (pc' := 237) rfl rfl rfl ?_
  have f53 := ((f42.other W48 (Or.inr (sn33 hw))).other W51 (Or.inr (sn83 hw)))
  refine g_getf X51 hx hby hZ hown (host := "") (Or.inl (wi hw 13 rfl)) Via.refl e51 f53 d11_237 (pc' := 240) rfl ?_
  intro T54 X54 e54
  have f55 := ((f44.other W48 ne_x1_a1).other W51 ne_x1_a1)
  refine Go.alen X54 hx hZ e54 f55 (z := (4 : Int32)) rfl (hb hby d11_240) (pc' := 241) rfl ?_
  refine g_aloadN X54 hx hby d11_241 (pc' := 242) rfl rfl rfl ?_
  refine g_getf X54 hx hby hZ hown (host := "") (Or.inl (wi hw 35 rfl)) Via.refl e54 F51 d11_242 (pc' := 245) rfl ?_
  intro T56 X56 e56
  refine Go.callS X56 hx hZ hown (wi hw 79 rfl) (wi hw 80 rfl) (wi hw 39 rfl) (wi hw 81 rfl) (by decide) e56 (argsL := [(.int (4 : Int32)), (.int (1 : Int32))]) (rest := []) (W := 0) (rm_trim l Z a0 hw (1 : Int32) h51 n0 (Nat.le_trans (Nat.le_trans z39 (Nat.le_of_eq (Wr.size W48).symm)) (Nat.le_of_eq (Wr.size W51).symm)) ) (hb hby d11_245) (by rw [hml]; rfl) rfl pd1 rfl rfl (by decide) (by decide) (by decide) (by decide) ?_
  intro v57 T57 L57 X57 hQ57
  obtain ⟨rfl, Nq57, hh57⟩ := hQ57
  have N57 := Fr.app (Fr.snoc X51 (Fr.snoc X48 (Fr.snoc X38 (Fr.snoc X33 (Fr.snoc X27 N22 g9) ge_x1) ge_x2) ge_a1) ge_a1) Nq57
  refine Go.push (pc' := 248) rfl ?_
  refine g_istore X57 hx hby d11_248 (pc' := 250) rfl (L' := #[.val (.ref a1), .val (.ref y1), .val .null, .val .null, .val (.int (1 : Int32)), .val (.ref b8), .val (.int (1 : Int32)), .val (.int (4 : Int32)), .val (.int (0 : Int32)), .val (.int (0 : Int32))]) rfl ?_
  refine g_iload X57 hx hby d11_250 (pc' := 252) rfl rfl ?_
  refine g_aloadN X57 hx hby d11_252 (pc' := 253) rfl rfl rfl ?_
  refine g_getf X57 hx hby hZ hown (host := "") (Or.inl (wi hw 13 rfl)) Via.refl hh57 f53 d11_253 (pc' := 256) rfl ?_
  intro T58 X58 e58
  refine Go.alen X58 hx hZ e58 f55 (z := (4 : Int32)) rfl (hb hby d11_256) (pc' := 257) rfl ?_
  have hc257 : ¬ ((4 : Int) < (4 : Int)) := by decide
  refine g_icmpYes X58 hx hby d11_257 (pc' := 266) (flt (show ¬ ((4 : Int32) < (4 : Int32)) from fun q => hc257 (Int32.lt_iff_toInt_lt.mp q))).2.1 (by decide) (by decide) ?_
  refine Go.retV X58 hx hlk hret (hb hby d11_266) rfl (by decide) (by decide) ?_
  have V59 : ArF Z h51 x1 .int 4 (fun i => .int ((own_l [(0 : Int32), (-1 : Int32), (0 : Int32), (0 : Int32)]) i)) := f55.congr (fun i hi => congrArg Value.int ((by decide : ∀ i, i < 4 → (own_l [(0 : Int32), (-1 : Int32), (0 : Int32), (0 : Int32)]) i = (upI (own_l [(0 : Int32), (-1 : Int32), (0 : Int32), (0 : Int32)]) 0 (0 : Int32)) i) i hi))
  have f60 := ((V38.other W48 ne_x2_a1).other W51 ne_x2_a1)
  have V61 : ArF Z h51 x2 .int 4 (fun i => .int ((own_l [(0 : Int32), (-1 : Int32), (0 : Int32), (0 : Int32)]) i)) := f60.congr (fun i hi => congrArg Value.int ((by decide : ∀ i, i < 4 → (own_l [(0 : Int32), (-1 : Int32), (0 : Int32), (0 : Int32)]) i = (upI (own_l [(0 : Int32), (-1 : Int32), (0 : Int32), (0 : Int32)]) 0 (0 : Int32)) i) i hi))
  have f62 := (F48.other W51 (Or.inr (sn101 hw)))
  have f63 := ((((V27.other W33 (Ne.symm ne31)).other W38 (Ne.symm ne36)).other W48 (Ne.symm ne28)).other W51 (Ne.symm ne28))
  have V64 : ArF Z h51 b8 .long 1 (fun i => .long ((own_lj [(1 : Int64)]) i)) := f63.congr (fun i hi => congrArg Value.long ((by decide : ∀ i, i < 1 → (own_lj [(1 : Int64)]) i = (upJ (fun _ => (0 : Int64)) 0 (1 : Int64)) i) i hi))
  rw [e58]
  have f65 := (((f34.other W38 (Or.inl (Ne.symm ne_x2_a1))).other W48 (Or.inr (sn39 hw))).other W51 (Or.inr (sn86 hw)))
  have f66 := ((((((P4.ext E8).other W27 (Or.inl ne28)).other W33 (Or.inl (Ne.symm ne_x1_a1))).other W38 (Or.inl (Ne.symm ne_x2_a1))).other W48 (Or.inr (sn70 hw))).other W51 (Or.inr (sn80 hw)))
  have f67 := (((((f24.other W27 (Or.inl ne28)).other W33 (Or.inl (Ne.symm ne_x1_a1))).other W38 (Or.inl (Ne.symm ne_x2_a1))).other W48 (Or.inr (sn78 hw))).other W51 (Or.inr (sn81 hw)))
  have f68 := ((((((P7.ext E8).other W27 (Or.inl ne28)).other W33 (Or.inl (Ne.symm ne_x1_a1))).other W38 (Or.inl (Ne.symm ne_x2_a1))).other W48 (Or.inr (sn27 hw))).other W51 (Or.inr (sn98 hw)))
  have f69 := ((((((P8.ext E8).other W27 (Or.inl ne28)).other W33 (Or.inl (Ne.symm ne_x1_a1))).other W38 (Or.inl (Ne.symm ne_x2_a1))).other W48 (Or.inr (sn44 hw))).other W51 (Or.inr (sn89 hw)))
  have f70 := ((((((P9.ext E8).other W27 (Or.inl ne28)).other W33 (Or.inl (Ne.symm ne_x1_a1))).other W38 (Or.inl (Ne.symm ne_x2_a1))).other W48 (Or.inr (sn48 hw))).other W51 (Or.inr (sn92 hw)))
  have f71 := ((((((P10.ext E8).other W27 (Or.inl ne28)).other W33 (Or.inl (Ne.symm ne_x1_a1))).other W38 (Or.inl (Ne.symm ne_x2_a1))).other W48 (Or.inr (sn51 hw))).other W51 (Or.inr (sn95 hw)))
  have f72 := ((((((P11.ext E8).other W27 (Or.inl ne28)).other W33 (Or.inl (Ne.symm ne_x1_a1))).other W38 (Or.inl (Ne.symm ne_x2_a1))).other W48 (Or.inr (sn53 hw))).other W51 (Or.inr (sn104 hw)))
  exact ⟨b8, rfl, N57, K52, g9, s10, f53, f65, F51, f66, f62, f67, f68, f69, f70, f71, f72, V59, V61, V64⟩
theorem pd7 : parseMethodDescriptor "(Z)V" = some ⟨[.boolean], none⟩ := by decide +kernel
theorem pd8 : parseMethodDescriptor "(IIDI)I" = some ⟨[.int, .int, .double, .int], some .int⟩ := by decide +kernel
theorem pd9 : parseMethodDescriptor "([ILcom/example/edgewise/edgewise/Adjacency;Lcom/example/edgewise/edgewise/Adjacency;)V" = some ⟨[(.array .int), (.object "com/example/edgewise/edgewise/Adjacency"), (.object "com/example/edgewise/edgewise/Adjacency")], none⟩ := by decide +kernel
theorem ef_rm0 (m : MethodId) (x0 : Int32) (x1 : Int32) (x2 : Int32) : entryFrame m #[(.int x0), (.int x1), (.int x2)] maxLocals = mkF m 0 #[.val (.int x0), .val (.int x1), .val (.int x2), .unset, .unset, .unset, .unset, .unset, .unset, .unset, .unset, .unset, .unset, .unset, .unset] [] := by first | (simp [entryFrame, mkF, argsToLocals, Value.category, maxLocals]; done) | rfl
theorem pn_com_example_edgewise_edgewise_EdgeSlotsNumberAtPinLaw : plainName "com/example/edgewise/edgewise/EdgeSlotsNumberAtPinLaw" = true := by first | (simp [plainName, overriddenIn]; done) | decide +kernel
set_option maxRecDepth 65536 in
set_option maxHeartbeats 40000000 in
theorem rm0 (l : Launch) (Z : State) (a0 : Array Value) (hw : ∀ d ∈ tables_1, d.before a0 Z = true) (ws : List Jvm.Cond) (p1 p2 p3 : Int32) (h0 : Heap) (n0 : Nat) (Z0 : n0 ≤ h0.size)  :
    MetFree l x (head1 (Jvm.Cond.code x code maxLocals ret :: ws) room_1) (fun a U => a = #[(.int p1), (.int p2), (.int p3)] ∧ Z.Warmed39 U.vm ∧ U.heap = h0) (fun _ _ _ _ _ => True) (fun _ U o U' => ∃ v L, o = .returned v ∧ (fun v h L => v = some (.int 1) ∧ Fr n0 L) v U'.heap L ∧ FrameEnd U o U' L room_1.cells room_1.slots) := by
  refine meet (y := x) (Q := fun v h L => v = some (.int 1) ∧ Fr n0 L) (plainFor_of_name pn_com_example_edgewise_edgewise_EdgeSlotsNumberAtPinLaw) (fun m => ef_rm0 m p1 p2 p3) ?_
  intro p e s m below meth c T0 hx hby hml hZ hown hnm hret hlk X0 e0
  have N0 := Fr.nil n0
  have hml : c.maxLocals = 15 := hml
  refine Go.join (α := Int32) (P := fun x => (fun (kd : Int32) => kd = (0 : Int32) ∨ kd = (1 : Int32)) x) (F := fun x => (fun (kd : Int32) => T0.setTop (mkF m 12 #[.val (.int p1), .val (.int p2), .val (.int p3), .val (.int kd), .unset, .unset, .unset, .unset, .unset, .unset, .unset, .unset, .unset, .unset, .unset] [])) x) ?_ ?_
  · rintro kd hJ12
    show Go p.tables e below s _ _ _ (T0.setTop (mkF m 12 #[.val (.int p1), .val (.int p2), .val (.int p3), .val (.int kd), .unset, .unset, .unset, .unset, .unset, .unset, .unset, .unset, .unset, .unset, .unset] []))
    refine g_iloadN X0 hx hby at_12 (pc' := 13) rfl rfl ?_
    refine g_iconst X0 hx hby at_13 (pc' := 14) rfl (z := (2 : Int32)) rfl ?_
    refine g_iand X0 hx hby at_14 (pc' := 15) rfl rfl ?_
    by_cases hc15 : (p1 &&& (2 : Int32)).toInt = (0 : Int)
    · refine g_ifYes X0 hx hby at_15 (pc' := 22) (teq (show (p1 &&& (2 : Int32)) = (0 : Int32) from Int32.toInt_inj.mp hc15)).1 (by decide) (by decide) ?_
      refine g_iconst X0 hx hby at_22 (pc' := 23) rfl (z := (0 : Int32)) rfl ?_
      refine g_istore X0 hx hby at_23 (pc' := 25) rfl (L' := #[.val (.int p1), .val (.int p2), .val (.int p3), .val (.int kd), .val (.int (0 : Int32)), .unset, .unset, .unset, .unset, .unset, .unset, .unset, .unset, .unset, .unset]) rfl ?_
      refine g_iloadN X0 hx hby at_25 (pc' := 26) rfl rfl ?_
      refine g_iconst X0 hx hby at_26 (pc' := 27) rfl (z := (4 : Int32)) rfl ?_
      refine g_iand X0 hx hby at_27 (pc' := 28) rfl rfl ?_
      by_cases hc28 : (p1 &&& (4 : Int32)).toInt = (0 : Int)
      · refine g_ifYes X0 hx hby at_28 (pc' := 35) (teq (show (p1 &&& (4 : Int32)) = (0 : Int32) from Int32.toInt_inj.mp hc28)).1 (by decide) (by decide) ?_
        refine g_iconst X0 hx hby at_35 (pc' := 36) rfl (z := (0 : Int32)) rfl ?_
        refine g_istore X0 hx hby at_36 (pc' := 38) rfl (L' := #[.val (.int p1), .val (.int p2), .val (.int p3), .val (.int kd), .val (.int (0 : Int32)), .val (.int (0 : Int32)), .unset, .unset, .unset, .unset, .unset, .unset, .unset, .unset, .unset]) rfl ?_
        refine Go.join (α := Int32) (P := fun x => (fun (av : Int32) => av = (0 : Int32) ∨ av = (1 : Int32)) x) (F := fun x => (fun (av : Int32) => T0.setTop (mkF m 52 #[.val (.int p1), .val (.int p2), .val (.int p3), .val (.int kd), .val (.int (0 : Int32)), .val (.int (0 : Int32)), .val (.int av), .unset, .unset, .unset, .unset, .unset, .unset, .unset, .unset] [])) x) ?_ ?_
        · rintro av hJ52
          show Go p.tables e below s _ _ _ (T0.setTop (mkF m 52 #[.val (.int p1), .val (.int p2), .val (.int p3), .val (.int kd), .val (.int (0 : Int32)), .val (.int (0 : Int32)), .val (.int av), .unset, .unset, .unset, .unset, .unset, .unset, .unset, .unset] []))
          refine Go.join (α := Int32) (P := fun x => (fun (ra : Int32) => ra = (0 : Int32) ∨ ra = (1 : Int32)) x) (F := fun x => (fun (ra : Int32) => T0.setTop (mkF m 66 #[.val (.int p1), .val (.int p2), .val (.int p3), .val (.int kd), .val (.int (0 : Int32)), .val (.int (0 : Int32)), .val (.int av), .val (.int ra), .unset, .unset, .unset, .unset, .unset, .unset, .unset] [])) x) ?_ ?_
          · rintro ra hJ66
            show Go p.tables e below s _ _ _ (T0.setTop (mkF m 66 #[.val (.int p1), .val (.int p2), .val (.int p3), .val (.int kd), .val (.int (0 : Int32)), .val (.int (0 : Int32)), .val (.int av), .val (.int ra), .unset, .unset, .unset, .unset, .unset, .unset, .unset] []))
            refine g_iconst X0 hx hby at_66 (pc' := 67) rfl (z := (1 : Int32)) rfl ?_
            refine Go.newarr X0 hx hZ (n := 1) (cap := 1) (ty := .int) rfl (wi hw 0 rfl) e0 (by decide) rfl (by decide) (by decide) (by decide) (by decide) (hb hby at_67) (pc' := 69) rfl ?_
            intro T1 h1 b1 X1 e1 E1 hb1 V1
            have g2 : n0 ≤ b1 := by rw [hb1]; exact Z0
            have V3 : ArF Z h1 b1 .int 1 (fun i => .int ((fun _ => (0 : Int32)) i)) := V1
            refine g_dup X1 hx hby at_69 (pc' := 70) rfl rfl ?_
            refine g_iconst X1 hx hby at_70 (pc' := 71) rfl (z := (0 : Int32)) rfl ?_
            refine g_iconst X1 hx hby at_71 (pc' := 72) rfl (z := (0 : Int32)) rfl ?_
            refine Go.iastore X1 hx hZ e1 V3 (k := 0) rfl (by decide) (hb hby at_72) (pc' := 73) rfl ?_
            intro T4 h4 X4 e4 W4 V4
            refine g_astore X4 hx hby at_73 (pc' := 75) rfl rfl (L' := #[.val (.int p1), .val (.int p2), .val (.int p3), .val (.int kd), .val (.int (0 : Int32)), .val (.int (0 : Int32)), .val (.int av), .val (.int ra), .val (.ref b1), .unset, .unset, .unset, .unset, .unset, .unset]) rfl ?_
            refine g_iconst X4 hx hby at_75 (pc' := 76) rfl (z := (4 : Int32)) rfl ?_
            refine Go.newarr X4 hx hZ (n := 4) (cap := 4) (ty := .long) rfl (wi hw 1 rfl) e4 (by decide) rfl (by decide) (by decide) (by decide) (by decide) (hb hby at_76) (pc' := 78) rfl ?_
            intro T5 h5 b5 X5 e5 E5 hb5 V5
            have g6 : n0 ≤ b5 := by rw [hb5]; exact (Nat.le_trans (Nat.le_trans Z0 E1.1) (Nat.le_of_eq (Wr.size W4).symm))
            have V7 : ArF Z h5 b5 .long 4 (fun i => .long ((fun _ => (0 : Int64)) i)) := V5
            refine g_astore X5 hx hby at_78 (pc' := 80) rfl rfl (L' := #[.val (.int p1), .val (.int p2), .val (.int p3), .val (.int kd), .val (.int (0 : Int32)), .val (.int (0 : Int32)), .val (.int av), .val (.int ra), .val (.ref b1), .val (.ref b5), .unset, .unset, .unset, .unset, .unset]) rfl ?_
            refine g_iconst X5 hx hby at_80 (pc' := 81) rfl (z := (0 : Int32)) rfl ?_
            refine g_istore X5 hx hby at_81 (pc' := 83) rfl (L' := #[.val (.int p1), .val (.int p2), .val (.int p3), .val (.int kd), .val (.int (0 : Int32)), .val (.int (0 : Int32)), .val (.int av), .val (.int ra), .val (.ref b1), .val (.ref b5), .val (.int (0 : Int32)), .unset, .unset, .unset, .unset]) rfl ?_
            refine g_iload X5 hx hby at_83 (pc' := 85) rfl rfl ?_
            have hc85 : (0 : Int) = (0 : Int) := by decide
            refine g_ifNo X5 hx hby at_85 (pc' := 88) (teq (show (0 : Int32) = (0 : Int32) from Int32.toInt_inj.mp hc85)).2 rfl ?_
            refine g_aload X5 hx hby at_88 (pc' := 90) rfl rfl rfl ?_
            refine g_iload X5 hx hby at_90 (pc' := 92) rfl rfl ?_
            refine Go.of (fun _ k => XS.lconst X5.here hx rfl (hb hby at_92) k) ?_
            show Go p.tables e below s _ _ _ (T5.setTop (mkF m 93 #[.val (.int p1), .val (.int p2), .val (.int p3), .val (.int kd), .val (.int (0 : Int32)), .val (.int (0 : Int32)), .val (.int av), .val (.int ra), .val (.ref b1), .val (.ref b5), .val (.int (0 : Int32)), .unset, .unset, .unset, .unset] [(.long (0 : Int64)), (.int (0 : Int32)), (.ref b5)]))
            refine Go.lastore X5 hx hZ e5 V7 (k := 0) rfl (by decide) (hb hby at_93) (pc' := 94) rfl ?_
            intro T8 h8 X8 e8 W8 V8
            refine g_iinc X8 hx hby at_94 (pc' := 97) rfl rfl (L' := #[.val (.int p1), .val (.int p2), .val (.int p3), .val (.int kd), .val (.int (0 : Int32)), .val (.int (0 : Int32)), .val (.int av), .val (.int ra), .val (.ref b1), .val (.ref b5), .val (.int (1 : Int32)), .unset, .unset, .unset, .unset]) rfl ?_
            refine g_aload X8 hx hby at_97 (pc' := 99) rfl rfl rfl ?_
            refine g_iload X8 hx hby at_99 (pc' := 101) rfl rfl ?_
            refine Go.of (fun _ k => XS.lconst X8.here hx rfl (hb hby at_101) k) ?_
            show Go p.tables e below s _ _ _ (T8.setTop (mkF m 102 #[.val (.int p1), .val (.int p2), .val (.int p3), .val (.int kd), .val (.int (0 : Int32)), .val (.int (0 : Int32)), .val (.int av), .val (.int ra), .val (.ref b1), .val (.ref b5), .val (.int (1 : Int32)), .unset, .unset, .unset, .unset] [(.long (1 : Int64)), (.int (1 : Int32)), (.ref b5)]))
            refine Go.lastore X8 hx hZ e8 V8 (k := 1) rfl (by decide) (hb hby at_102) (pc' := 103) rfl ?_
            intro T9 h9 X9 e9 W9 V9
            have z10 : n0 ≤ h9.size := (Nat.le_trans (Nat.le_trans (Nat.le_trans (Nat.le_trans (Nat.le_trans Z0 E1.1) (Nat.le_of_eq (Wr.size W4).symm)) E5.1) (Nat.le_of_eq (Wr.size W8).symm)) (Nat.le_of_eq (Wr.size W9).symm))
            refine g_iinc X9 hx hby at_103 (pc' := 106) rfl rfl (L' := #[.val (.int p1), .val (.int p2), .val (.int p3), .val (.int kd), .val (.int (0 : Int32)), .val (.int (0 : Int32)), .val (.int av), .val (.int ra), .val (.ref b1), .val (.ref b5), .val (.int (2 : Int32)), .unset, .unset, .unset, .unset]) rfl ?_
            refine g_iload X9 hx hby at_106 (pc' := 108) rfl rfl ?_
            have hc108 : (0 : Int) = (0 : Int) := by decide
            refine g_ifNo X9 hx hby at_108 (pc' := 111) (teq (show (0 : Int32) = (0 : Int32) from Int32.toInt_inj.mp hc108)).2 rfl ?_
            refine g_aload X9 hx hby at_111 (pc' := 113) rfl rfl rfl ?_
            refine g_iload X9 hx hby at_113 (pc' := 115) rfl rfl ?_
            refine g_ldcL X9 hx hby hZ hown (wi hw 2 rfl) at_115 (pc' := 118) rfl ?_
            refine Go.lastore X9 hx hZ e9 V9 (k := 2) rfl (by decide) (hb hby at_118) (pc' := 119) rfl ?_
            intro T11 h11 X11 e11 W11 V11
            refine g_iinc X11 hx hby at_119 (pc' := 122) rfl rfl (L' := #[.val (.int p1), .val (.int p2), .val (.int p3), .val (.int kd), .val (.int (0 : Int32)), .val (.int (0 : Int32)), .val (.int av), .val (.int ra), .val (.ref b1), .val (.ref b5), .val (.int (3 : Int32)), .unset, .unset, .unset, .unset]) rfl ?_
            have V12 : ArF Z h11 b5 .long 4 (fun i => .long ((own_lj [(0 : Int64), (1 : Int64), (2 : Int64), (0 : Int64)]) i)) := V11.congr (fun i hi => congrArg Value.long ((by decide : ∀ i, i < 4 → (own_lj [(0 : Int64), (1 : Int64), (2 : Int64), (0 : Int64)]) i = (upJ (upJ (upJ (fun _ => (0 : Int64)) 0 (0 : Int64)) 1 (1 : Int64)) 2 (2 : Int64)) i) i hi))
            have ne13 : b1 ≠ b5 := Nat.ne_of_lt (by rw [hb5]; exact V4.lt)
            have f14 := ((((V4.ext E5).other W8 ne13).other W9 ne13).other W11 ne13)
            have V15 : ArF Z h11 b1 .int 1 (fun i => .int ((own_l [(0 : Int32)]) i)) := f14.congr (fun i hi => congrArg Value.int ((by decide : ∀ i, i < 1 → (own_l [(0 : Int32)]) i = (upI (fun _ => (0 : Int32)) 0 (0 : Int32)) i) i hi))
            refine Go.join (α := State × (List Loc) × Heap × Int32 × (Nat → Int64)) (P := fun x => (fun (Tj138 : State) (Lj138 : List Loc) (hj138 : Heap) (nv : Int32) (gE : Nat → Int64) => Stand p l e room_1 s m #[(.int p1), (.int p2), (.int p3)] below meth c Tj138 Lj138 2 5 ∧ Tj138.heap = hj138 ∧ Fr n0 Lj138 ∧ n0 ≤ hj138.size ∧ ArF Z hj138 b1 .int 1 (fun i => .int ((own_l [(0 : Int32)]) i)) ∧ ArF Z hj138 b5 .long 4 (fun i => .long (gE i)) ∧ ((av = (0 : Int32) ∧ nv = (3 : Int32) ∧ gE = (own_lj [(0 : Int64), (1 : Int64), (2 : Int64), (0 : Int64)])) ∨ (av = (1 : Int32) ∧ nv = (4 : Int32) ∧ gE = (own_lj [(0 : Int64), (1 : Int64), (2 : Int64), (3 : Int64)])))) x.1 x.2.1 x.2.2.1 x.2.2.2.1 x.2.2.2.2) (F := fun x => (fun (Tj138 : State) (Lj138 : List Loc) (hj138 : Heap) (nv : Int32) (gE : Nat → Int64) => Tj138.setTop (mkF m 138 #[.val (.int p1), .val (.int p2), .val (.int p3), .val (.int kd), .val (.int (0 : Int32)), .val (.int (0 : Int32)), .val (.int av), .val (.int ra), .val (.ref b1), .val (.ref b5), .val (.int nv), .unset, .unset, .unset, .unset] [])) x.1 x.2.1 x.2.2.1 x.2.2.2.1 x.2.2.2.2) ?_ ?_
            · rintro ⟨Tj138, Lj138, hj138, nv, gE⟩ hP138
              obtain ⟨Xj138, ej138, Nj138, zj138, fj138_0, fj138_1, hJ138⟩ : Stand p l e room_1 s m #[(.int p1), (.int p2), (.int p3)] below meth c Tj138 Lj138 2 5 ∧ Tj138.heap = hj138 ∧ Fr n0 Lj138 ∧ n0 ≤ hj138.size ∧ ArF Z hj138 b1 .int 1 (fun i => .int ((own_l [(0 : Int32)]) i)) ∧ ArF Z hj138 b5 .long 4 (fun i => .long (gE i)) ∧ ((av = (0 : Int32) ∧ nv = (3 : Int32) ∧ gE = (own_lj [(0 : Int64), (1 : Int64), (2 : Int64), (0 : Int64)])) ∨ (av = (1 : Int32) ∧ nv = (4 : Int32) ∧ gE = (own_lj [(0 : Int64), (1 : Int64), (2 : Int64), (3 : Int64)]))) := hP138
              show Go p.tables e below s _ _ _ (Tj138.setTop (mkF m 138 #[.val (.int p1), .val (.int p2), .val (.int p3), .val (.int kd), .val (.int (0 : Int32)), .val (.int (0 : Int32)), .val (.int av), .val (.int ra), .val (.ref b1), .val (.ref b5), .val (.int nv), .unset, .unset, .unset, .unset] []))
              refine g_iloadN Xj138 hx hby at_138 (pc' := 139) rfl rfl ?_
              refine g_ldcI Xj138 hx hby hZ hown (wi hw 3 rfl) at_139 (pc' := 141) rfl ?_
              refine g_iand Xj138 hx hby at_141 (pc' := 142) rfl rfl ?_
              refine g_iload Xj138 hx hby at_142 (pc' := 144) rfl rfl ?_
              refine g_irem Xj138 hx hby at_144 (pc' := 145) rfl (by rcases hJ138 with ⟨_, rfl, _⟩ | ⟨_, rfl, _⟩ <;> decide) rfl ?_
              generalize hv16 : ((p2 &&& (2147483647 : Int32)) % nv) = v16
              refine g_istore Xj138 hx hby at_145 (pc' := 147) rfl (L' := #[.val (.int p1), .val (.int p2), .val (.int p3), .val (.int kd), .val (.int (0 : Int32)), .val (.int (0 : Int32)), .val (.int av), .val (.int ra), .val (.ref b1), .val (.ref b5), .val (.int nv), .val (.int v16), .unset, .unset, .unset]) rfl ?_
              refine Go.join (α := State × (List Loc) × Heap × Int32 × Int32 × Int32 × Addr × Addr × Addr × Addr) (P := fun x => (fun (Tj246a0 : State) (Lj246a0 : List Loc) (hj246a0 : Heap) (k3 : Int32) (r13 : Int32) (r14 : Int32) (oa : Addr) (xa : Addr) (xb : Addr) (xk : Addr) => Stand p l e room_1 s m #[(.int p1), (.int p2), (.int p3)] below meth c Tj246a0 Lj246a0 22 80 ∧ Tj246a0.heap = hj246a0 ∧ Fr n0 Lj246a0 ∧ n0 ≤ hj246a0.size ∧ Exa Z hj246a0 oa kES ∧ Fld Z hj246a0 oa kES "sources" "[I" (.ref xa) ∧ Fld Z hj246a0 oa kES "targets" "[I" (.ref xb) ∧ Fld Z hj246a0 oa kES "bound" "I" (.int (3 : Int32)) ∧ Fld Z hj246a0 oa kES "count" "I" (.int (3 : Int32)) ∧ Fld Z hj246a0 oa kES "keptNumbers" "[J" (.ref xk) ∧ Fld Z hj246a0 oa kES "nextNumber" "J" (.long (3 : Int64)) ∧ ArF Z hj246a0 xa .int 4 (fun i => .int ((own_l [(0 : Int32), (0 : Int32), (0 : Int32), (0 : Int32)]) i)) ∧ ArF Z hj246a0 xb .int 4 (fun i => .int ((own_l [(0 : Int32), (0 : Int32), (0 : Int32), (0 : Int32)]) i)) ∧ ArF Z hj246a0 xk .long 0 (fun i => .long ((fun _ => (0 : Int64)) i)) ∧ ArF Z hj246a0 b5 .long 4 (fun i => .long (gE i)) ∧ (xa ≠ oa ∧ xb ≠ oa ∧ xa ≠ xb ∧ xk ≠ oa ∧ xk ≠ xa ∧ xk ≠ xb ∧ b5 ≠ oa ∧ b5 ≠ xa ∧ b5 ≠ xb ∧ n0 ≤ oa ∧ n0 ≤ xa ∧ n0 ≤ xb ∧ av = (0 : Int32))) x.1 x.2.1 x.2.2.1 x.2.2.2.1 x.2.2.2.2.1 x.2.2.2.2.2.1 x.2.2.2.2.2.2.1 x.2.2.2.2.2.2.2.1 x.2.2.2.2.2.2.2.2.1 x.2.2.2.2.2.2.2.2.2) (F := fun x => (fun (Tj246a0 : State) (Lj246a0 : List Loc) (hj246a0 : Heap) (k3 : Int32) (r13 : Int32) (r14 : Int32) (oa : Addr) (xa : Addr) (xb : Addr) (xk : Addr) => Tj246a0.setTop (mkF m 246 #[.val (.int p1), .val (.int p2), .val (.int p3), .val (.int k3), .val (.int (0 : Int32)), .val (.int (0 : Int32)), .val (.int av), .val (.int ra), .val (.ref b1), .val (.ref b5), .val (.int nv), .val (.int v16), .val (.ref oa), .val (.int r13), .val (.int r14)] [])) x.1 x.2.1 x.2.2.1 x.2.2.2.1 x.2.2.2.2.1 x.2.2.2.2.2.1 x.2.2.2.2.2.2.1 x.2.2.2.2.2.2.2.1 x.2.2.2.2.2.2.2.2.1 x.2.2.2.2.2.2.2.2.2) ?_ ?_
              · rintro ⟨Tj246a0, Lj246a0, hj246a0, k3, r13, r14, oa, xa, xb, xk⟩ hP246a0
                obtain ⟨Xj246a0, ej246a0, Nj246a0, zj246a0, fj246a0_0, fj246a0_1, fj246a0_2, fj246a0_3, fj246a0_4, fj246a0_5, fj246a0_6, fj246a0_7, fj246a0_8, fj246a0_9, fj246a0_10, hJ246a0⟩ : Stand p l e room_1 s m #[(.int p1), (.int p2), (.int p3)] below meth c Tj246a0 Lj246a0 22 80 ∧ Tj246a0.heap = hj246a0 ∧ Fr n0 Lj246a0 ∧ n0 ≤ hj246a0.size ∧ Exa Z hj246a0 oa kES ∧ Fld Z hj246a0 oa kES "sources" "[I" (.ref xa) ∧ Fld Z hj246a0 oa kES "targets" "[I" (.ref xb) ∧ Fld Z hj246a0 oa kES "bound" "I" (.int (3 : Int32)) ∧ Fld Z hj246a0 oa kES "count" "I" (.int (3 : Int32)) ∧ Fld Z hj246a0 oa kES "keptNumbers" "[J" (.ref xk) ∧ Fld Z hj246a0 oa kES "nextNumber" "J" (.long (3 : Int64)) ∧ ArF Z hj246a0 xa .int 4 (fun i => .int ((own_l [(0 : Int32), (0 : Int32), (0 : Int32), (0 : Int32)]) i)) ∧ ArF Z hj246a0 xb .int 4 (fun i => .int ((own_l [(0 : Int32), (0 : Int32), (0 : Int32), (0 : Int32)]) i)) ∧ ArF Z hj246a0 xk .long 0 (fun i => .long ((fun _ => (0 : Int64)) i)) ∧ ArF Z hj246a0 b5 .long 4 (fun i => .long (gE i)) ∧ (xa ≠ oa ∧ xb ≠ oa ∧ xa ≠ xb ∧ xk ≠ oa ∧ xk ≠ xa ∧ xk ≠ xb ∧ b5 ≠ oa ∧ b5 ≠ xa ∧ b5 ≠ xb ∧ n0 ≤ oa ∧ n0 ≤ xa ∧ n0 ≤ xb ∧ av = (0 : Int32)) := hP246a0
                show Go p.tables e below s _ _ _ (Tj246a0.setTop (mkF m 246 #[.val (.int p1), .val (.int p2), .val (.int p3), .val (.int k3), .val (.int (0 : Int32)), .val (.int (0 : Int32)), .val (.int av), .val (.int ra), .val (.ref b1), .val (.ref b5), .val (.int nv), .val (.int v16), .val (.ref oa), .val (.int r13), .val (.int r14)] []))
                obtain ⟨nn0, nn1, nn2, nn3, nn4, nn5, nn6, nn7, nn8, gg0, gg1, gg2, hav⟩ := hJ246a0
                have hnv : nv = (3 : Int32) ∧ gE = (own_lj [(0 : Int64), (1 : Int64), (2 : Int64), (0 : Int64)]) := by
                  rcases hJ138 with ⟨hA, h1, h2⟩ | ⟨hA, h1, h2⟩
                  · exact ⟨h1, h2⟩
                  · rw [hav] at hA; exact absurd hA (by decide)
                obtain ⟨rfl, rfl⟩ := hnv
                refine Go.join (α := State × (List Loc) × Heap × Unit) (P := fun x => (fun (Tj257 : State) (Lj257 : List Loc) (hj257 : Heap) (uu : Unit) => Stand p l e room_1 s m #[(.int p1), (.int p2), (.int p3)] below meth c Tj257 Lj257 22 80 ∧ Tj257.heap = hj257 ∧ Fr n0 Lj257 ∧ n0 ≤ hj257.size ∧ Exa Z hj257 oa kES ∧ Fld Z hj257 oa kES "bound" "I" (.int (3 : Int32)) ∧ Fld Z hj257 oa kES "keptNumbers" "[J" (.ref xk) ∧ Fld Z hj257 oa kES "nextNumber" "J" (.long (3 : Int64)) ∧ ArF Z hj257 xk .long 0 (fun i => .long ((fun _ => (0 : Int64)) i)) ∧ ArF Z hj257 b5 .long 4 (fun i => .long ((own_lj [(0 : Int64), (1 : Int64), (2 : Int64), (0 : Int64)]) i)) ∧ (True)) x.1 x.2.1 x.2.2.1 x.2.2.2) (F := fun x => (fun (Tj257 : State) (Lj257 : List Loc) (hj257 : Heap) (uu : Unit) => Tj257.setTop (mkF m 257 #[.val (.int p1), .val (.int p2), .val (.int p3), .val (.int k3), .val (.int (0 : Int32)), .val (.int (0 : Int32)), .val (.int av), .val (.int ra), .val (.ref b1), .val (.ref b5), .val (.int (3 : Int32)), .val (.int v16), .val (.ref oa), .val (.int r13), .val (.int r14)] [])) x.1 x.2.1 x.2.2.1 x.2.2.2) ?_ ?_
                · rintro ⟨Tj257, Lj257, hj257, uu⟩ hP257
                  obtain ⟨Xj257, ej257, Nj257, zj257, fj257_0, fj257_1, fj257_2, fj257_3, fj257_4, fj257_5, hJ257⟩ : Stand p l e room_1 s m #[(.int p1), (.int p2), (.int p3)] below meth c Tj257 Lj257 22 80 ∧ Tj257.heap = hj257 ∧ Fr n0 Lj257 ∧ n0 ≤ hj257.size ∧ Exa Z hj257 oa kES ∧ Fld Z hj257 oa kES "bound" "I" (.int (3 : Int32)) ∧ Fld Z hj257 oa kES "keptNumbers" "[J" (.ref xk) ∧ Fld Z hj257 oa kES "nextNumber" "J" (.long (3 : Int64)) ∧ ArF Z hj257 xk .long 0 (fun i => .long ((fun _ => (0 : Int64)) i)) ∧ ArF Z hj257 b5 .long 4 (fun i => .long ((own_lj [(0 : Int64), (1 : Int64), (2 : Int64), (0 : Int64)]) i)) ∧ (True) := hP257
                  show Go p.tables e below s _ _ _ (Tj257.setTop (mkF m 257 #[.val (.int p1), .val (.int p2), .val (.int p3), .val (.int k3), .val (.int (0 : Int32)), .val (.int (0 : Int32)), .val (.int av), .val (.int ra), .val (.ref b1), .val (.ref b5), .val (.int (3 : Int32)), .val (.int v16), .val (.ref oa), .val (.int r13), .val (.int r14)] []))
                  have hv : v16 = (0 : Int32) ∨ v16 = (1 : Int32) ∨ v16 = (2 : Int32) := by
                    have : v16.toInt = 0 ∨ v16.toInt = 1 ∨ v16.toInt = 2 := by rw [← hv16]; have : (0 ≤ (p2 &&& (2147483647 : Int32)).toInt → ((p2 &&& (2147483647 : Int32)) % (3 : Int32)).toInt = (p2 &&& (2147483647 : Int32)).toInt % 3) ∧ ((p2 &&& (2147483647 : Int32)).toInt < 0 → ((p2 &&& (2147483647 : Int32)) % (3 : Int32)).toInt = -((-(p2 &&& (2147483647 : Int32)).toInt) % 3)) := c_irem _ _ 3 rfl; have : -2147483648 ≤ ((p2 &&& (2147483647 : Int32)) % (3 : Int32)).toInt ∧ ((p2 &&& (2147483647 : Int32)) % (3 : Int32)).toInt < 2147483648 := rng32 _; have : (p2 &&& (2147483647 : Int32)).toInt = p2.toInt % 2147483648 := c_mask _ _ 31 (by decide) (by decide); have : -2147483648 ≤ (p2 &&& (2147483647 : Int32)).toInt ∧ (p2 &&& (2147483647 : Int32)).toInt < 2147483648 := rng32 _; have : -2147483648 ≤ p2.toInt ∧ p2.toInt < 2147483648 := rng32 _; omega
                    rcases this with h | h | h
                    · exact Or.inl (Int32.toInt_inj.mp h)
                    · exact Or.inr (Or.inl (Int32.toInt_inj.mp h))
                    · exact Or.inr (Or.inr ((Int32.toInt_inj.mp h)))
                  clear hv16
                  rcases hv with rfl | rfl | rfl
                  · show Go p.tables e below s _ _ _ (Tj257.setTop (mkF m 257 #[.val (.int p1), .val (.int p2), .val (.int p3), .val (.int k3), .val (.int (0 : Int32)), .val (.int (0 : Int32)), .val (.int av), .val (.int ra), .val (.ref b1), .val (.ref b5), .val (.int (3 : Int32)), .val (.int (0 : Int32)), .val (.ref oa), .val (.int r13), .val (.int r14)] []))
                    refine g_aload Xj257 hx hby at_257 (pc' := 259) rfl rfl rfl ?_
                    refine g_iload Xj257 hx hby at_259 (pc' := 261) rfl rfl ?_
                    refine Go.callV Xj257 hx hZ hown (wi hw 82 rfl) (wi hw 83 rfl) (notFace_of_selects (args := #[]) (mvT hZ (wi hw 85 rfl))) (wi hw 85 rfl) (wi hw 84 rfl) (wi hw 6 rfl) (wi hw 86 rfl) (by decide) ej257 (a := oa) (argsL := [(.int (0 : Int32))]) (rest := []) (W := 0) fj257_0 (rm_numA l Z a0 hw oa (0 : Int32) xk (3 : Int32) (3 : Int64) 0 (fun _ => (0 : Int64)) hj257 n0 zj257 fj257_2 fj257_1 fj257_3 fj257_4 (by decide)) (hb hby at_261) (by rw [hml]; rfl) rfl pd6 rfl rfl (by decide) (by decide) (by decide) (by decide) ?_
                    intro v17 T17 L17 X17 hQ17
                    obtain ⟨rfl, Nq17, hh17⟩ := hQ17
                    have N17 := Fr.app Nj257 Nq17
                    show Go p.tables e below s _ _ _ (T17.setTop (mkF m 264 #[.val (.int p1), .val (.int p2), .val (.int p3), .val (.int k3), .val (.int (0 : Int32)), .val (.int (0 : Int32)), .val (.int av), .val (.int ra), .val (.ref b1), .val (.ref b5), .val (.int (3 : Int32)), .val (.int (0 : Int32)), .val (.ref oa), .val (.int r13), .val (.int r14)] [(.long (0 : Int64))]))
                    refine g_aload X17 hx hby at_264 (pc' := 266) rfl rfl rfl ?_
                    refine g_iload X17 hx hby at_266 (pc' := 268) rfl rfl ?_
                    refine Go.laload X17 hx hZ hh17 fj257_5 (k := 0) rfl (by decide) (v := (0 : Int64)) rfl (hb hby at_268) (pc' := 269) rfl ?_
                    refine g_lcmp X17 hx hby at_269 (pc' := 270) rfl  ?_
                    have hc270 : (0 : Int) = (0 : Int) := by decide
                    refine g_ifNo X17 hx hby at_270 (pc' := 273) (teq (show (lcmpW (0 : Int64) (0 : Int64)) = (0 : Int32) from (lw_eq (0 : Int64) (0 : Int64)).mpr (Int64.toInt_inj.mp hc270))).2 rfl ?_
                    refine g_iconst X17 hx hby at_273 (pc' := 274) rfl (z := (1 : Int32)) rfl ?_
                    refine g_goto X17 hx hby at_274 (pc' := 278) (by decide) (by decide) ?_
                    refine Go.retZ X17 hx hlk hret (by simp) (hb hby at_278) (by decide) (by decide) ?_
                    exact ⟨rfl, N17⟩
                  · show Go p.tables e below s _ _ _ (Tj257.setTop (mkF m 257 #[.val (.int p1), .val (.int p2), .val (.int p3), .val (.int k3), .val (.int (0 : Int32)), .val (.int (0 : Int32)), .val (.int av), .val (.int ra), .val (.ref b1), .val (.ref b5), .val (.int (3 : Int32)), .val (.int (1 : Int32)), .val (.ref oa), .val (.int r13), .val (.int r14)] []))
                    refine g_aload Xj257 hx hby at_257 (pc' := 259) rfl rfl rfl ?_
                    refine g_iload Xj257 hx hby at_259 (pc' := 261) rfl rfl ?_
                    refine Go.callV Xj257 hx hZ hown (wi hw 82 rfl) (wi hw 83 rfl) (notFace_of_selects (args := #[]) (mvT hZ (wi hw 85 rfl))) (wi hw 85 rfl) (wi hw 84 rfl) (wi hw 6 rfl) (wi hw 86 rfl) (by decide) ej257 (a := oa) (argsL := [(.int (1 : Int32))]) (rest := []) (W := 0) fj257_0 (rm_numA l Z a0 hw oa (1 : Int32) xk (3 : Int32) (3 : Int64) 0 (fun _ => (0 : Int64)) hj257 n0 zj257 fj257_2 fj257_1 fj257_3 fj257_4 (by decide)) (hb hby at_261) (by rw [hml]; rfl) rfl pd6 rfl rfl (by decide) (by decide) (by decide) (by decide) ?_
                    intro v18 T18 L18 X18 hQ18
                    obtain ⟨rfl, Nq18, hh18⟩ := hQ18
                    have N18 := Fr.app Nj257 Nq18
                    show Go p.tables e below s _ _ _ (T18.setTop (mkF m 264 #[.val (.int p1), .val (.int p2), .val (.int p3), .val (.int k3), .val (.int (0 : Int32)), .val (.int (0 : Int32)), .val (.int av), .val (.int ra), .val (.ref b1), .val (.ref b5), .val (.int (3 : Int32)), .val (.int (1 : Int32)), .val (.ref oa), .val (.int r13), .val (.int r14)] [(.long (1 : Int64))]))
                    refine g_aload X18 hx hby at_264 (pc' := 266) rfl rfl rfl ?_
                    refine g_iload X18 hx hby at_266 (pc' := 268) rfl rfl ?_
                    refine Go.laload X18 hx hZ hh18 fj257_5 (k := 1) rfl (by decide) (v := (1 : Int64)) rfl (hb hby at_268) (pc' := 269) rfl ?_
                    refine g_lcmp X18 hx hby at_269 (pc' := 270) rfl  ?_
                    have hc270 : (1 : Int) = (1 : Int) := by decide
                    refine g_ifNo X18 hx hby at_270 (pc' := 273) (teq (show (lcmpW (1 : Int64) (1 : Int64)) = (0 : Int32) from (lw_eq (1 : Int64) (1 : Int64)).mpr (Int64.toInt_inj.mp hc270))).2 rfl ?_
                    refine g_iconst X18 hx hby at_273 (pc' := 274) rfl (z := (1 : Int32)) rfl ?_
                    refine g_goto X18 hx hby at_274 (pc' := 278) (by decide) (by decide) ?_
                    refine Go.retZ X18 hx hlk hret (by simp) (hb hby at_278) (by decide) (by decide) ?_
                    exact ⟨rfl, N18⟩
                  · show Go p.tables e below s _ _ _ (Tj257.setTop (mkF m 257 #[.val (.int p1), .val (.int p2), .val (.int p3), .val (.int k3), .val (.int (0 : Int32)), .val (.int (0 : Int32)), .val (.int av), .val (.int ra), .val (.ref b1), .val (.ref b5), .val (.int (3 : Int32)), .val (.int (2 : Int32)), .val (.ref oa), .val (.int r13), .val (.int r14)] []))
                    refine g_aload Xj257 hx hby at_257 (pc' := 259) rfl rfl rfl ?_
                    refine g_iload Xj257 hx hby at_259 (pc' := 261) rfl rfl ?_
                    refine Go.callV Xj257 hx hZ hown (wi hw 82 rfl) (wi hw 83 rfl) (notFace_of_selects (args := #[]) (mvT hZ (wi hw 85 rfl))) (wi hw 85 rfl) (wi hw 84 rfl) (wi hw 6 rfl) (wi hw 86 rfl) (by decide) ej257 (a := oa) (argsL := [(.int (2 : Int32))]) (rest := []) (W := 0) fj257_0 (rm_numA l Z a0 hw oa (2 : Int32) xk (3 : Int32) (3 : Int64) 0 (fun _ => (0 : Int64)) hj257 n0 zj257 fj257_2 fj257_1 fj257_3 fj257_4 (by decide)) (hb hby at_261) (by rw [hml]; rfl) rfl pd6 rfl rfl (by decide) (by decide) (by decide) (by decide) ?_
                    intro v19 T19 L19 X19 hQ19
                    obtain ⟨rfl, Nq19, hh19⟩ := hQ19
                    have N19 := Fr.app Nj257 Nq19
                    show Go p.tables e below s _ _ _ (T19.setTop (mkF m 264 #[.val (.int p1), .val (.int p2), .val (.int p3), .val (.int k3), .val (.int (0 : Int32)), .val (.int (0 : Int32)), .val (.int av), .val (.int ra), .val (.ref b1), .val (.ref b5), .val (.int (3 : Int32)), .val (.int (2 : Int32)), .val (.ref oa), .val (.int r13), .val (.int r14)] [(.long (2 : Int64))]))
                    refine g_aload X19 hx hby at_264 (pc' := 266) rfl rfl rfl ?_
                    refine g_iload X19 hx hby at_266 (pc' := 268) rfl rfl ?_
                    refine Go.laload X19 hx hZ hh19 fj257_5 (k := 2) rfl (by decide) (v := (2 : Int64)) rfl (hb hby at_268) (pc' := 269) rfl ?_
                    refine g_lcmp X19 hx hby at_269 (pc' := 270) rfl  ?_
                    have hc270 : (2 : Int) = (2 : Int) := by decide
                    refine g_ifNo X19 hx hby at_270 (pc' := 273) (teq (show (lcmpW (2 : Int64) (2 : Int64)) = (0 : Int32) from (lw_eq (2 : Int64) (2 : Int64)).mpr (Int64.toInt_inj.mp hc270))).2 rfl ?_
                    refine g_iconst X19 hx hby at_273 (pc' := 274) rfl (z := (1 : Int32)) rfl ?_
                    refine g_goto X19 hx hby at_274 (pc' := 278) (by decide) (by decide) ?_
                    refine Go.retZ X19 hx hlk hret (by simp) (hb hby at_278) (by decide) (by decide) ?_
                    exact ⟨rfl, N19⟩
                intro J257
                rcases hJ66 with rfl | rfl
                · show Go p.tables e below s _ _ _ (Tj246a0.setTop (mkF m 246 #[.val (.int p1), .val (.int p2), .val (.int p3), .val (.int k3), .val (.int (0 : Int32)), .val (.int (0 : Int32)), .val (.int av), .val (.int (0 : Int32)), .val (.ref b1), .val (.ref b5), .val (.int (3 : Int32)), .val (.int v16), .val (.ref oa), .val (.int r13), .val (.int r14)] []))
                  refine g_iload Xj246a0 hx hby at_246 (pc' := 248) rfl rfl ?_
                  have hc248 : (0 : Int) = (0 : Int) := by decide
                  refine g_ifYes Xj246a0 hx hby at_248 (pc' := 257) (teq (show (0 : Int32) = (0 : Int32) from Int32.toInt_inj.mp hc248)).1 (by decide) (by decide) ?_
                  exact J257 (Tj246a0, _, hj246a0, ()) ⟨Xj246a0.more (by decide) (by decide), ej246a0, Nj246a0, zj246a0, fj246a0_0, fj246a0_3, fj246a0_5, fj246a0_6, fj246a0_9, fj246a0_10, (show True from trivial)⟩
                · show Go p.tables e below s _ _ _ (Tj246a0.setTop (mkF m 246 #[.val (.int p1), .val (.int p2), .val (.int p3), .val (.int k3), .val (.int (0 : Int32)), .val (.int (0 : Int32)), .val (.int av), .val (.int (1 : Int32)), .val (.ref b1), .val (.ref b5), .val (.int (3 : Int32)), .val (.int v16), .val (.ref oa), .val (.int r13), .val (.int r14)] []))
                  refine g_iload Xj246a0 hx hby at_246 (pc' := 248) rfl rfl ?_
                  have hc248 : ¬ ((1 : Int) = (0 : Int)) := by decide
                  refine g_ifNo Xj246a0 hx hby at_248 (pc' := 251) (feq (show ¬ ((1 : Int32) = (0 : Int32)) from fun q => hc248 (congrArg Int32.toInt q))).1 rfl ?_
                  refine g_aload Xj246a0 hx hby at_251 (pc' := 253) rfl rfl rfl ?_
                  refine g_iconst Xj246a0 hx hby at_253 (pc' := 254) rfl (z := (0 : Int32)) rfl ?_
                  refine Go.callV Xj246a0 hx hZ hown (wi hw 87 rfl) (wi hw 88 rfl) (notFace_of_selects (args := #[]) (mvT hZ (wi hw 90 rfl))) (wi hw 90 rfl) (wi hw 89 rfl) (wi hw 6 rfl) (wi hw 91 rfl) (by decide) ej246a0 (a := oa) (argsL := [(.int (0 : Int32))]) (rest := []) (W := 0) fj246a0_0 (rm_remove4s l Z a0 hw oa (0 : Int32) xa xb (own_l [(0 : Int32), (0 : Int32), (0 : Int32), (0 : Int32)]) (own_l [(0 : Int32), (0 : Int32), (0 : Int32), (0 : Int32)]) (3 : Int32) (3 : Int32) 0 xk (3 : Int64) hj246a0 n0 zj246a0 fj246a0_0 fj246a0_1 fj246a0_2 fj246a0_7 fj246a0_8 fj246a0_3 fj246a0_4 fj246a0_5 fj246a0_6 nn0 nn1 nn2 gg0 gg1 gg2 rfl (by decide)) (hb hby at_254) (by rw [hml]; rfl) rfl pd5 rfl rfl (by decide) (by decide) (by decide) (by decide) ?_
                  intro v20 T20 L20 X20 hQ20
                  obtain ⟨h20, e20⟩ : ∃ z, T20.heap = z := ⟨_, rfl⟩
                  rw [e20] at hQ20
                  obtain ⟨rfl, Nq20, Kq20, Fq0_20, Fq1_20, Fq2_20, Fq3_20, Fq4_20, Fq5_20, Fq6_20, Fq7_20⟩ := hQ20
                  have N20 := Fr.app Nj246a0 Nq20
                  have Fq5_20 : Fld Z h20 oa kES "count" "I" (.int (2 : Int32)) := Fq5_20
                  refine Go.void (pc' := 257) rfl ?_
                  have f21 := fj246a0_0.keep Kq20
                  have f22 := (fj246a0_9.keep Kq20 (ninS nn3 (ninS nn4 (ninS nn5 nin0))))
                  have f23 := (fj246a0_10.keep Kq20 (ninS nn6 (ninS nn7 (ninS nn8 nin0))))
                  exact J257 (T20, _, h20, ()) ⟨X20.more (by decide) (by decide), e20, N20, (Nat.le_trans zj246a0 Kq20.1), f21, Fq4_20, Fq6_20, Fq7_20, f22, f23, (show True from trivial)⟩
              intro J246a0
              refine Go.join (α := State × (List Loc) × Heap × Int32 × Int32 × Int32 × Addr × Addr × Addr × Addr) (P := fun x => (fun (Tj246a1 : State) (Lj246a1 : List Loc) (hj246a1 : Heap) (k3 : Int32) (r13 : Int32) (r14 : Int32) (oa : Addr) (xa : Addr) (xb : Addr) (xk : Addr) => Stand p l e room_1 s m #[(.int p1), (.int p2), (.int p3)] below meth c Tj246a1 Lj246a1 22 80 ∧ Tj246a1.heap = hj246a1 ∧ Fr n0 Lj246a1 ∧ n0 ≤ hj246a1.size ∧ Exa Z hj246a1 oa kES ∧ Fld Z hj246a1 oa kES "sources" "[I" (.ref xa) ∧ Fld Z hj246a1 oa kES "targets" "[I" (.ref xb) ∧ Fld Z hj246a1 oa kES "bound" "I" (.int (4 : Int32)) ∧ Fld Z hj246a1 oa kES "count" "I" (.int (4 : Int32)) ∧ Fld Z hj246a1 oa kES "keptNumbers" "[J" (.ref xk) ∧ Fld Z hj246a1 oa kES "nextNumber" "J" (.long (4 : Int64)) ∧ ArF Z hj246a1 xa .int 4 (fun i => .int ((own_l [(0 : Int32), (0 : Int32), (0 : Int32), (0 : Int32)]) i)) ∧ ArF Z hj246a1 xb .int 4 (fun i => .int ((own_l [(0 : Int32), (0 : Int32), (0 : Int32), (0 : Int32)]) i)) ∧ ArF Z hj246a1 xk .long 0 (fun i => .long ((fun _ => (0 : Int64)) i)) ∧ ArF Z hj246a1 b5 .long 4 (fun i => .long (gE i)) ∧ (xa ≠ oa ∧ xb ≠ oa ∧ xa ≠ xb ∧ xk ≠ oa ∧ xk ≠ xa ∧ xk ≠ xb ∧ b5 ≠ oa ∧ b5 ≠ xa ∧ b5 ≠ xb ∧ n0 ≤ oa ∧ n0 ≤ xa ∧ n0 ≤ xb ∧ av = (1 : Int32))) x.1 x.2.1 x.2.2.1 x.2.2.2.1 x.2.2.2.2.1 x.2.2.2.2.2.1 x.2.2.2.2.2.2.1 x.2.2.2.2.2.2.2.1 x.2.2.2.2.2.2.2.2.1 x.2.2.2.2.2.2.2.2.2) (F := fun x => (fun (Tj246a1 : State) (Lj246a1 : List Loc) (hj246a1 : Heap) (k3 : Int32) (r13 : Int32) (r14 : Int32) (oa : Addr) (xa : Addr) (xb : Addr) (xk : Addr) => Tj246a1.setTop (mkF m 246 #[.val (.int p1), .val (.int p2), .val (.int p3), .val (.int k3), .val (.int (0 : Int32)), .val (.int (0 : Int32)), .val (.int av), .val (.int ra), .val (.ref b1), .val (.ref b5), .val (.int nv), .val (.int v16), .val (.ref oa), .val (.int r13), .val (.int r14)] [])) x.1 x.2.1 x.2.2.1 x.2.2.2.1 x.2.2.2.2.1 x.2.2.2.2.2.1 x.2.2.2.2.2.2.1 x.2.2.2.2.2.2.2.1 x.2.2.2.2.2.2.2.2.1 x.2.2.2.2.2.2.2.2.2) ?_ ?_
              · rintro ⟨Tj246a1, Lj246a1, hj246a1, k3, r13, r14, oa, xa, xb, xk⟩ hP246a1
                obtain ⟨Xj246a1, ej246a1, Nj246a1, zj246a1, fj246a1_0, fj246a1_1, fj246a1_2, fj246a1_3, fj246a1_4, fj246a1_5, fj246a1_6, fj246a1_7, fj246a1_8, fj246a1_9, fj246a1_10, hJ246a1⟩ : Stand p l e room_1 s m #[(.int p1), (.int p2), (.int p3)] below meth c Tj246a1 Lj246a1 22 80 ∧ Tj246a1.heap = hj246a1 ∧ Fr n0 Lj246a1 ∧ n0 ≤ hj246a1.size ∧ Exa Z hj246a1 oa kES ∧ Fld Z hj246a1 oa kES "sources" "[I" (.ref xa) ∧ Fld Z hj246a1 oa kES "targets" "[I" (.ref xb) ∧ Fld Z hj246a1 oa kES "bound" "I" (.int (4 : Int32)) ∧ Fld Z hj246a1 oa kES "count" "I" (.int (4 : Int32)) ∧ Fld Z hj246a1 oa kES "keptNumbers" "[J" (.ref xk) ∧ Fld Z hj246a1 oa kES "nextNumber" "J" (.long (4 : Int64)) ∧ ArF Z hj246a1 xa .int 4 (fun i => .int ((own_l [(0 : Int32), (0 : Int32), (0 : Int32), (0 : Int32)]) i)) ∧ ArF Z hj246a1 xb .int 4 (fun i => .int ((own_l [(0 : Int32), (0 : Int32), (0 : Int32), (0 : Int32)]) i)) ∧ ArF Z hj246a1 xk .long 0 (fun i => .long ((fun _ => (0 : Int64)) i)) ∧ ArF Z hj246a1 b5 .long 4 (fun i => .long (gE i)) ∧ (xa ≠ oa ∧ xb ≠ oa ∧ xa ≠ xb ∧ xk ≠ oa ∧ xk ≠ xa ∧ xk ≠ xb ∧ b5 ≠ oa ∧ b5 ≠ xa ∧ b5 ≠ xb ∧ n0 ≤ oa ∧ n0 ≤ xa ∧ n0 ≤ xb ∧ av = (1 : Int32)) := hP246a1
                show Go p.tables e below s _ _ _ (Tj246a1.setTop (mkF m 246 #[.val (.int p1), .val (.int p2), .val (.int p3), .val (.int k3), .val (.int (0 : Int32)), .val (.int (0 : Int32)), .val (.int av), .val (.int ra), .val (.ref b1), .val (.ref b5), .val (.int nv), .val (.int v16), .val (.ref oa), .val (.int r13), .val (.int r14)] []))
                obtain ⟨nn0, nn1, nn2, nn3, nn4, nn5, nn6, nn7, nn8, gg0, gg1, gg2, hav⟩ := hJ246a1
                have hnv : nv = (4 : Int32) ∧ gE = (own_lj [(0 : Int64), (1 : Int64), (2 : Int64), (3 : Int64)]) := by
                  rcases hJ138 with ⟨hA, h1, h2⟩ | ⟨hA, h1, h2⟩
                  · rw [hav] at hA; exact absurd hA (by decide)
                  · exact ⟨h1, h2⟩
                obtain ⟨rfl, rfl⟩ := hnv
                refine Go.join (α := State × (List Loc) × Heap × Unit) (P := fun x => (fun (Tj257 : State) (Lj257 : List Loc) (hj257 : Heap) (uu : Unit) => Stand p l e room_1 s m #[(.int p1), (.int p2), (.int p3)] below meth c Tj257 Lj257 22 80 ∧ Tj257.heap = hj257 ∧ Fr n0 Lj257 ∧ n0 ≤ hj257.size ∧ Exa Z hj257 oa kES ∧ Fld Z hj257 oa kES "bound" "I" (.int (4 : Int32)) ∧ Fld Z hj257 oa kES "keptNumbers" "[J" (.ref xk) ∧ Fld Z hj257 oa kES "nextNumber" "J" (.long (4 : Int64)) ∧ ArF Z hj257 xk .long 0 (fun i => .long ((fun _ => (0 : Int64)) i)) ∧ ArF Z hj257 b5 .long 4 (fun i => .long ((own_lj [(0 : Int64), (1 : Int64), (2 : Int64), (3 : Int64)]) i)) ∧ (True)) x.1 x.2.1 x.2.2.1 x.2.2.2) (F := fun x => (fun (Tj257 : State) (Lj257 : List Loc) (hj257 : Heap) (uu : Unit) => Tj257.setTop (mkF m 257 #[.val (.int p1), .val (.int p2), .val (.int p3), .val (.int k3), .val (.int (0 : Int32)), .val (.int (0 : Int32)), .val (.int av), .val (.int ra), .val (.ref b1), .val (.ref b5), .val (.int (4 : Int32)), .val (.int v16), .val (.ref oa), .val (.int r13), .val (.int r14)] [])) x.1 x.2.1 x.2.2.1 x.2.2.2) ?_ ?_
                · rintro ⟨Tj257, Lj257, hj257, uu⟩ hP257
                  obtain ⟨Xj257, ej257, Nj257, zj257, fj257_0, fj257_1, fj257_2, fj257_3, fj257_4, fj257_5, hJ257⟩ : Stand p l e room_1 s m #[(.int p1), (.int p2), (.int p3)] below meth c Tj257 Lj257 22 80 ∧ Tj257.heap = hj257 ∧ Fr n0 Lj257 ∧ n0 ≤ hj257.size ∧ Exa Z hj257 oa kES ∧ Fld Z hj257 oa kES "bound" "I" (.int (4 : Int32)) ∧ Fld Z hj257 oa kES "keptNumbers" "[J" (.ref xk) ∧ Fld Z hj257 oa kES "nextNumber" "J" (.long (4 : Int64)) ∧ ArF Z hj257 xk .long 0 (fun i => .long ((fun _ => (0 : Int64)) i)) ∧ ArF Z hj257 b5 .long 4 (fun i => .long ((own_lj [(0 : Int64), (1 : Int64), (2 : Int64), (3 : Int64)]) i)) ∧ (True) := hP257
                  show Go p.tables e below s _ _ _ (Tj257.setTop (mkF m 257 #[.val (.int p1), .val (.int p2), .val (.int p3), .val (.int k3), .val (.int (0 : Int32)), .val (.int (0 : Int32)), .val (.int av), .val (.int ra), .val (.ref b1), .val (.ref b5), .val (.int (4 : Int32)), .val (.int v16), .val (.ref oa), .val (.int r13), .val (.int r14)] []))
                  have hv : v16 = (0 : Int32) ∨ v16 = (1 : Int32) ∨ v16 = (2 : Int32) ∨ v16 = (3 : Int32) := by
                    have : v16.toInt = 0 ∨ v16.toInt = 1 ∨ v16.toInt = 2 ∨ v16.toInt = 3 := by rw [← hv16]; have : (0 ≤ (p2 &&& (2147483647 : Int32)).toInt → ((p2 &&& (2147483647 : Int32)) % (4 : Int32)).toInt = (p2 &&& (2147483647 : Int32)).toInt % 4) ∧ ((p2 &&& (2147483647 : Int32)).toInt < 0 → ((p2 &&& (2147483647 : Int32)) % (4 : Int32)).toInt = -((-(p2 &&& (2147483647 : Int32)).toInt) % 4)) := c_irem _ _ 4 rfl; have : -2147483648 ≤ ((p2 &&& (2147483647 : Int32)) % (4 : Int32)).toInt ∧ ((p2 &&& (2147483647 : Int32)) % (4 : Int32)).toInt < 2147483648 := rng32 _; have : (p2 &&& (2147483647 : Int32)).toInt = p2.toInt % 2147483648 := c_mask _ _ 31 (by decide) (by decide); have : -2147483648 ≤ (p2 &&& (2147483647 : Int32)).toInt ∧ (p2 &&& (2147483647 : Int32)).toInt < 2147483648 := rng32 _; have : -2147483648 ≤ p2.toInt ∧ p2.toInt < 2147483648 := rng32 _; omega
                    rcases this with h | h | h | h
                    · exact Or.inl (Int32.toInt_inj.mp h)
                    · exact Or.inr (Or.inl (Int32.toInt_inj.mp h))
                    · exact Or.inr (Or.inr (Or.inl (Int32.toInt_inj.mp h)))
                    · exact Or.inr (Or.inr (Or.inr ((Int32.toInt_inj.mp h))))
                  clear hv16
                  rcases hv with rfl | rfl | rfl | rfl
                  · show Go p.tables e below s _ _ _ (Tj257.setTop (mkF m 257 #[.val (.int p1), .val (.int p2), .val (.int p3), .val (.int k3), .val (.int (0 : Int32)), .val (.int (0 : Int32)), .val (.int av), .val (.int ra), .val (.ref b1), .val (.ref b5), .val (.int (4 : Int32)), .val (.int (0 : Int32)), .val (.ref oa), .val (.int r13), .val (.int r14)] []))
                    refine g_aload Xj257 hx hby at_257 (pc' := 259) rfl rfl rfl ?_
                    refine g_iload Xj257 hx hby at_259 (pc' := 261) rfl rfl ?_
                    refine Go.callV Xj257 hx hZ hown (wi hw 82 rfl) (wi hw 83 rfl) (notFace_of_selects (args := #[]) (mvT hZ (wi hw 85 rfl))) (wi hw 85 rfl) (wi hw 84 rfl) (wi hw 6 rfl) (wi hw 86 rfl) (by decide) ej257 (a := oa) (argsL := [(.int (0 : Int32))]) (rest := []) (W := 0) fj257_0 (rm_numA l Z a0 hw oa (0 : Int32) xk (4 : Int32) (4 : Int64) 0 (fun _ => (0 : Int64)) hj257 n0 zj257 fj257_2 fj257_1 fj257_3 fj257_4 (by decide)) (hb hby at_261) (by rw [hml]; rfl) rfl pd6 rfl rfl (by decide) (by decide) (by decide) (by decide) ?_
                    intro v24 T24 L24 X24 hQ24
                    obtain ⟨rfl, Nq24, hh24⟩ := hQ24
                    have N24 := Fr.app Nj257 Nq24
                    show Go p.tables e below s _ _ _ (T24.setTop (mkF m 264 #[.val (.int p1), .val (.int p2), .val (.int p3), .val (.int k3), .val (.int (0 : Int32)), .val (.int (0 : Int32)), .val (.int av), .val (.int ra), .val (.ref b1), .val (.ref b5), .val (.int (4 : Int32)), .val (.int (0 : Int32)), .val (.ref oa), .val (.int r13), .val (.int r14)] [(.long (0 : Int64))]))
                    refine g_aload X24 hx hby at_264 (pc' := 266) rfl rfl rfl ?_
                    refine g_iload X24 hx hby at_266 (pc' := 268) rfl rfl ?_
                    refine Go.laload X24 hx hZ hh24 fj257_5 (k := 0) rfl (by decide) (v := (0 : Int64)) rfl (hb hby at_268) (pc' := 269) rfl ?_
                    refine g_lcmp X24 hx hby at_269 (pc' := 270) rfl  ?_
                    have hc270 : (0 : Int) = (0 : Int) := by decide
                    refine g_ifNo X24 hx hby at_270 (pc' := 273) (teq (show (lcmpW (0 : Int64) (0 : Int64)) = (0 : Int32) from (lw_eq (0 : Int64) (0 : Int64)).mpr (Int64.toInt_inj.mp hc270))).2 rfl ?_
                    refine g_iconst X24 hx hby at_273 (pc' := 274) rfl (z := (1 : Int32)) rfl ?_
                    refine g_goto X24 hx hby at_274 (pc' := 278) (by decide) (by decide) ?_
                    refine Go.retZ X24 hx hlk hret (by simp) (hb hby at_278) (by decide) (by decide) ?_
                    exact ⟨rfl, N24⟩
                  · show Go p.tables e below s _ _ _ (Tj257.setTop (mkF m 257 #[.val (.int p1), .val (.int p2), .val (.int p3), .val (.int k3), .val (.int (0 : Int32)), .val (.int (0 : Int32)), .val (.int av), .val (.int ra), .val (.ref b1), .val (.ref b5), .val (.int (4 : Int32)), .val (.int (1 : Int32)), .val (.ref oa), .val (.int r13), .val (.int r14)] []))
                    refine g_aload Xj257 hx hby at_257 (pc' := 259) rfl rfl rfl ?_
                    refine g_iload Xj257 hx hby at_259 (pc' := 261) rfl rfl ?_
                    refine Go.callV Xj257 hx hZ hown (wi hw 82 rfl) (wi hw 83 rfl) (notFace_of_selects (args := #[]) (mvT hZ (wi hw 85 rfl))) (wi hw 85 rfl) (wi hw 84 rfl) (wi hw 6 rfl) (wi hw 86 rfl) (by decide) ej257 (a := oa) (argsL := [(.int (1 : Int32))]) (rest := []) (W := 0) fj257_0 (rm_numA l Z a0 hw oa (1 : Int32) xk (4 : Int32) (4 : Int64) 0 (fun _ => (0 : Int64)) hj257 n0 zj257 fj257_2 fj257_1 fj257_3 fj257_4 (by decide)) (hb hby at_261) (by rw [hml]; rfl) rfl pd6 rfl rfl (by decide) (by decide) (by decide) (by decide) ?_
                    intro v25 T25 L25 X25 hQ25
                    obtain ⟨rfl, Nq25, hh25⟩ := hQ25
                    have N25 := Fr.app Nj257 Nq25
                    show Go p.tables e below s _ _ _ (T25.setTop (mkF m 264 #[.val (.int p1), .val (.int p2), .val (.int p3), .val (.int k3), .val (.int (0 : Int32)), .val (.int (0 : Int32)), .val (.int av), .val (.int ra), .val (.ref b1), .val (.ref b5), .val (.int (4 : Int32)), .val (.int (1 : Int32)), .val (.ref oa), .val (.int r13), .val (.int r14)] [(.long (1 : Int64))]))
                    refine g_aload X25 hx hby at_264 (pc' := 266) rfl rfl rfl ?_
                    refine g_iload X25 hx hby at_266 (pc' := 268) rfl rfl ?_
                    refine Go.laload X25 hx hZ hh25 fj257_5 (k := 1) rfl (by decide) (v := (1 : Int64)) rfl (hb hby at_268) (pc' := 269) rfl ?_
                    refine g_lcmp X25 hx hby at_269 (pc' := 270) rfl  ?_
                    have hc270 : (1 : Int) = (1 : Int) := by decide
                    refine g_ifNo X25 hx hby at_270 (pc' := 273) (teq (show (lcmpW (1 : Int64) (1 : Int64)) = (0 : Int32) from (lw_eq (1 : Int64) (1 : Int64)).mpr (Int64.toInt_inj.mp hc270))).2 rfl ?_
                    refine g_iconst X25 hx hby at_273 (pc' := 274) rfl (z := (1 : Int32)) rfl ?_
                    refine g_goto X25 hx hby at_274 (pc' := 278) (by decide) (by decide) ?_
                    refine Go.retZ X25 hx hlk hret (by simp) (hb hby at_278) (by decide) (by decide) ?_
                    exact ⟨rfl, N25⟩
                  · show Go p.tables e below s _ _ _ (Tj257.setTop (mkF m 257 #[.val (.int p1), .val (.int p2), .val (.int p3), .val (.int k3), .val (.int (0 : Int32)), .val (.int (0 : Int32)), .val (.int av), .val (.int ra), .val (.ref b1), .val (.ref b5), .val (.int (4 : Int32)), .val (.int (2 : Int32)), .val (.ref oa), .val (.int r13), .val (.int r14)] []))
                    refine g_aload Xj257 hx hby at_257 (pc' := 259) rfl rfl rfl ?_
                    refine g_iload Xj257 hx hby at_259 (pc' := 261) rfl rfl ?_
                    refine Go.callV Xj257 hx hZ hown (wi hw 82 rfl) (wi hw 83 rfl) (notFace_of_selects (args := #[]) (mvT hZ (wi hw 85 rfl))) (wi hw 85 rfl) (wi hw 84 rfl) (wi hw 6 rfl) (wi hw 86 rfl) (by decide) ej257 (a := oa) (argsL := [(.int (2 : Int32))]) (rest := []) (W := 0) fj257_0 (rm_numA l Z a0 hw oa (2 : Int32) xk (4 : Int32) (4 : Int64) 0 (fun _ => (0 : Int64)) hj257 n0 zj257 fj257_2 fj257_1 fj257_3 fj257_4 (by decide)) (hb hby at_261) (by rw [hml]; rfl) rfl pd6 rfl rfl (by decide) (by decide) (by decide) (by decide) ?_
                    intro v26 T26 L26 X26 hQ26
                    obtain ⟨rfl, Nq26, hh26⟩ := hQ26
                    have N26 := Fr.app Nj257 Nq26
                    show Go p.tables e below s _ _ _ (T26.setTop (mkF m 264 #[.val (.int p1), .val (.int p2), .val (.int p3), .val (.int k3), .val (.int (0 : Int32)), .val (.int (0 : Int32)), .val (.int av), .val (.int ra), .val (.ref b1), .val (.ref b5), .val (.int (4 : Int32)), .val (.int (2 : Int32)), .val (.ref oa), .val (.int r13), .val (.int r14)] [(.long (2 : Int64))]))
                    refine g_aload X26 hx hby at_264 (pc' := 266) rfl rfl rfl ?_
                    refine g_iload X26 hx hby at_266 (pc' := 268) rfl rfl ?_
                    refine Go.laload X26 hx hZ hh26 fj257_5 (k := 2) rfl (by decide) (v := (2 : Int64)) rfl (hb hby at_268) (pc' := 269) rfl ?_
                    refine g_lcmp X26 hx hby at_269 (pc' := 270) rfl  ?_
                    have hc270 : (2 : Int) = (2 : Int) := by decide
                    refine g_ifNo X26 hx hby at_270 (pc' := 273) (teq (show (lcmpW (2 : Int64) (2 : Int64)) = (0 : Int32) from (lw_eq (2 : Int64) (2 : Int64)).mpr (Int64.toInt_inj.mp hc270))).2 rfl ?_
                    refine g_iconst X26 hx hby at_273 (pc' := 274) rfl (z := (1 : Int32)) rfl ?_
                    refine g_goto X26 hx hby at_274 (pc' := 278) (by decide) (by decide) ?_
                    refine Go.retZ X26 hx hlk hret (by simp) (hb hby at_278) (by decide) (by decide) ?_
                    exact ⟨rfl, N26⟩
                  · show Go p.tables e below s _ _ _ (Tj257.setTop (mkF m 257 #[.val (.int p1), .val (.int p2), .val (.int p3), .val (.int k3), .val (.int (0 : Int32)), .val (.int (0 : Int32)), .val (.int av), .val (.int ra), .val (.ref b1), .val (.ref b5), .val (.int (4 : Int32)), .val (.int (3 : Int32)), .val (.ref oa), .val (.int r13), .val (.int r14)] []))
                    refine g_aload Xj257 hx hby at_257 (pc' := 259) rfl rfl rfl ?_
                    refine g_iload Xj257 hx hby at_259 (pc' := 261) rfl rfl ?_
                    refine Go.callV Xj257 hx hZ hown (wi hw 82 rfl) (wi hw 83 rfl) (notFace_of_selects (args := #[]) (mvT hZ (wi hw 85 rfl))) (wi hw 85 rfl) (wi hw 84 rfl) (wi hw 6 rfl) (wi hw 86 rfl) (by decide) ej257 (a := oa) (argsL := [(.int (3 : Int32))]) (rest := []) (W := 0) fj257_0 (rm_numA l Z a0 hw oa (3 : Int32) xk (4 : Int32) (4 : Int64) 0 (fun _ => (0 : Int64)) hj257 n0 zj257 fj257_2 fj257_1 fj257_3 fj257_4 (by decide)) (hb hby at_261) (by rw [hml]; rfl) rfl pd6 rfl rfl (by decide) (by decide) (by decide) (by decide) ?_
                    intro v27 T27 L27 X27 hQ27
                    obtain ⟨rfl, Nq27, hh27⟩ := hQ27
                    have N27 := Fr.app Nj257 Nq27
                    show Go p.tables e below s _ _ _ (T27.setTop (mkF m 264 #[.val (.int p1), .val (.int p2), .val (.int p3), .val (.int k3), .val (.int (0 : Int32)), .val (.int (0 : Int32)), .val (.int av), .val (.int ra), .val (.ref b1), .val (.ref b5), .val (.int (4 : Int32)), .val (.int (3 : Int32)), .val (.ref oa), .val (.int r13), .val (.int r14)] [(.long (3 : Int64))]))
                    refine g_aload X27 hx hby at_264 (pc' := 266) rfl rfl rfl ?_
                    refine g_iload X27 hx hby at_266 (pc' := 268) rfl rfl ?_
                    refine Go.laload X27 hx hZ hh27 fj257_5 (k := 3) rfl (by decide) (v := (3 : Int64)) rfl (hb hby at_268) (pc' := 269) rfl ?_
                    refine g_lcmp X27 hx hby at_269 (pc' := 270) rfl  ?_
                    have hc270 : (3 : Int) = (3 : Int) := by decide
                    refine g_ifNo X27 hx hby at_270 (pc' := 273) (teq (show (lcmpW (3 : Int64) (3 : Int64)) = (0 : Int32) from (lw_eq (3 : Int64) (3 : Int64)).mpr (Int64.toInt_inj.mp hc270))).2 rfl ?_
                    refine g_iconst X27 hx hby at_273 (pc' := 274) rfl (z := (1 : Int32)) rfl ?_
                    refine g_goto X27 hx hby at_274 (pc' := 278) (by decide) (by decide) ?_
                    refine Go.retZ X27 hx hlk hret (by simp) (hb hby at_278) (by decide) (by decide) ?_
                    exact ⟨rfl, N27⟩
                intro J257
                rcases hJ66 with rfl | rfl
                · show Go p.tables e below s _ _ _ (Tj246a1.setTop (mkF m 246 #[.val (.int p1), .val (.int p2), .val (.int p3), .val (.int k3), .val (.int (0 : Int32)), .val (.int (0 : Int32)), .val (.int av), .val (.int (0 : Int32)), .val (.ref b1), .val (.ref b5), .val (.int (4 : Int32)), .val (.int v16), .val (.ref oa), .val (.int r13), .val (.int r14)] []))
                  refine g_iload Xj246a1 hx hby at_246 (pc' := 248) rfl rfl ?_
                  have hc248 : (0 : Int) = (0 : Int) := by decide
                  refine g_ifYes Xj246a1 hx hby at_248 (pc' := 257) (teq (show (0 : Int32) = (0 : Int32) from Int32.toInt_inj.mp hc248)).1 (by decide) (by decide) ?_
                  exact J257 (Tj246a1, _, hj246a1, ()) ⟨Xj246a1.more (by decide) (by decide), ej246a1, Nj246a1, zj246a1, fj246a1_0, fj246a1_3, fj246a1_5, fj246a1_6, fj246a1_9, fj246a1_10, (show True from trivial)⟩
                · show Go p.tables e below s _ _ _ (Tj246a1.setTop (mkF m 246 #[.val (.int p1), .val (.int p2), .val (.int p3), .val (.int k3), .val (.int (0 : Int32)), .val (.int (0 : Int32)), .val (.int av), .val (.int (1 : Int32)), .val (.ref b1), .val (.ref b5), .val (.int (4 : Int32)), .val (.int v16), .val (.ref oa), .val (.int r13), .val (.int r14)] []))
                  refine g_iload Xj246a1 hx hby at_246 (pc' := 248) rfl rfl ?_
                  have hc248 : ¬ ((1 : Int) = (0 : Int)) := by decide
                  refine g_ifNo Xj246a1 hx hby at_248 (pc' := 251) (feq (show ¬ ((1 : Int32) = (0 : Int32)) from fun q => hc248 (congrArg Int32.toInt q))).1 rfl ?_
                  refine g_aload Xj246a1 hx hby at_251 (pc' := 253) rfl rfl rfl ?_
                  refine g_iconst Xj246a1 hx hby at_253 (pc' := 254) rfl (z := (0 : Int32)) rfl ?_
                  refine Go.callV Xj246a1 hx hZ hown (wi hw 87 rfl) (wi hw 88 rfl) (notFace_of_selects (args := #[]) (mvT hZ (wi hw 90 rfl))) (wi hw 90 rfl) (wi hw 89 rfl) (wi hw 6 rfl) (wi hw 91 rfl) (by decide) ej246a1 (a := oa) (argsL := [(.int (0 : Int32))]) (rest := []) (W := 0) fj246a1_0 (rm_remove4s l Z a0 hw oa (0 : Int32) xa xb (own_l [(0 : Int32), (0 : Int32), (0 : Int32), (0 : Int32)]) (own_l [(0 : Int32), (0 : Int32), (0 : Int32), (0 : Int32)]) (4 : Int32) (4 : Int32) 0 xk (4 : Int64) hj246a1 n0 zj246a1 fj246a1_0 fj246a1_1 fj246a1_2 fj246a1_7 fj246a1_8 fj246a1_3 fj246a1_4 fj246a1_5 fj246a1_6 nn0 nn1 nn2 gg0 gg1 gg2 rfl (by decide)) (hb hby at_254) (by rw [hml]; rfl) rfl pd5 rfl rfl (by decide) (by decide) (by decide) (by decide) ?_
                  intro v28 T28 L28 X28 hQ28
                  obtain ⟨h28, e28⟩ : ∃ z, T28.heap = z := ⟨_, rfl⟩
                  rw [e28] at hQ28
                  obtain ⟨rfl, Nq28, Kq28, Fq0_28, Fq1_28, Fq2_28, Fq3_28, Fq4_28, Fq5_28, Fq6_28, Fq7_28⟩ := hQ28
                  have N28 := Fr.app Nj246a1 Nq28
                  have Fq5_28 : Fld Z h28 oa kES "count" "I" (.int (3 : Int32)) := Fq5_28
                  refine Go.void (pc' := 257) rfl ?_
                  have f29 := fj246a1_0.keep Kq28
                  have f30 := (fj246a1_9.keep Kq28 (ninS nn3 (ninS nn4 (ninS nn5 nin0))))
                  have f31 := (fj246a1_10.keep Kq28 (ninS nn6 (ninS nn7 (ninS nn8 nin0))))
                  exact J257 (T28, _, h28, ()) ⟨X28.more (by decide) (by decide), e28, N28, (Nat.le_trans zj246a1 Kq28.1), f29, Fq4_28, Fq6_28, Fq7_28, f30, f31, (show True from trivial)⟩
              intro J246a1
              rcases hJ12 with rfl | rfl
              · show Go p.tables e below s _ _ _ (Tj138.setTop (mkF m 147 #[.val (.int p1), .val (.int p2), .val (.int p3), .val (.int (0 : Int32)), .val (.int (0 : Int32)), .val (.int (0 : Int32)), .val (.int av), .val (.int ra), .val (.ref b1), .val (.ref b5), .val (.int nv), .val (.int v16), .unset, .unset, .unset] []))
                refine g_new Xj138 hx hby hZ hown (wi hw 4 rfl) (wi hw 5 rfl) (wi hw 6 rfl) ej138 at_147 (pc' := 150) rfl (by decide) (by decide) ?_
                intro T32 h32 b32 X32 e32 E32 hb32 A32 D32
                have g33 : n0 ≤ b32 := by rw [hb32]; exact zj138
                have F34 : Fld Z h32 b32 "com/example/edgewise/edgewise/EdgeSlots" "sources" "[I" .null := D32 (Or.inl (wi hw 14 rfl)) (ty := (.array .int)) (by decide)
                have F35 : Fld Z h32 b32 "com/example/edgewise/edgewise/EdgeSlots" "targets" "[I" .null := D32 (Or.inl (wi hw 16 rfl)) (ty := (.array .int)) (by decide)
                have F36 : Fld Z h32 b32 "com/example/edgewise/edgewise/EdgeSlots" "sourcePositions" "[I" .null := D32 (Or.inl (wi hw 18 rfl)) (ty := (.array .int)) (by decide)
                have F37 : Fld Z h32 b32 "com/example/edgewise/edgewise/EdgeSlots" "targetPositions" "[I" .null := D32 (Or.inl (wi hw 20 rfl)) (ty := (.array .int)) (by decide)
                have F38 : Fld Z h32 b32 "com/example/edgewise/edgewise/EdgeSlots" "weights" "[D" .null := D32 (Or.inl (wi hw 23 rfl)) (ty := (.array .double)) (by decide)
                have F39 : Fld Z h32 b32 "com/example/edgewise/edgewise/EdgeSlots" "keys" "[I" .null := D32 (Or.inl (wi hw 25 rfl)) (ty := (.array .int)) (by decide)
                have F40 : Fld Z h32 b32 "com/example/edgewise/edgewise/EdgeSlots" "keptNumbers" "[J" .null := D32 (Or.inl (wi hw 27 rfl)) (ty := (.array .long)) (by decide)
                have F41 : Fld Z h32 b32 "com/example/edgewise/edgewise/EdgeSlots" "keyed" "Z" (.int (0 : Int32)) := D32 (Or.inr (wi hw 29 rfl)) (ty := .boolean) (by decide)
                have F42 : Fld Z h32 b32 "com/example/edgewise/edgewise/EdgeSlots" "bound" "I" (.int (0 : Int32)) := D32 (Or.inl (wi hw 36 rfl)) (ty := .int) (by decide)
                have F43 : Fld Z h32 b32 "com/example/edgewise/edgewise/EdgeSlots" "count" "I" (.int (0 : Int32)) := D32 (Or.inl (wi hw 71 rfl)) (ty := .int) (by decide)
                have F44 : Fld Z h32 b32 "com/example/edgewise/edgewise/EdgeSlots" "nextNumber" "J" (.long (0 : Int64)) := D32 (Or.inl (wi hw 73 rfl)) (ty := .long) (by decide)
                refine g_dup X32 hx hby at_150 (pc' := 151) rfl rfl ?_
                refine g_iloadN X32 hx hby at_151 (pc' := 152) rfl rfl ?_
                refine Go.callI X32 hx hZ hown rfl (wi hw 7 rfl) (wi hw 8 rfl) (wi hw 6 rfl) (wi hw 9 rfl) (by decide) e32 (a := b32) (argsL := [(.int (0 : Int32))]) (rest := [(.ref b32)]) (W := 1) (rm_init0 l Z a0 hw b32 h32 n0 (Nat.le_trans zj138 E32.1) A32 F34 F35 F36 F37 F38 F39 F40 F41 F42 F43 F44 g33) (hb hby at_152) (by rw [hml]; rfl) rfl pd7 rfl rfl (by decide) (by decide) (by decide) (by decide) ?_
                intro v45 T45 L45 X45 hQ45
                obtain ⟨h45, e45⟩ : ∃ z, T45.heap = z := ⟨_, rfl⟩
                rw [e45] at hQ45
                obtain ⟨b1_45, b2_45, b3_45, b4_45, b5_45, b6_45, b7_45, rfl, Nq45, Kq45, gqb1_45, sqb1_45, gqb2_45, sqb2_45, gqb3_45, sqb3_45, gqb4_45, sqb4_45, gqb5_45, sqb5_45, gqb6_45, sqb6_45, gqb7_45, sqb7_45, nqb1_b2_45, nqb1_b3_45, nqb1_b4_45, nqb1_b5_45, nqb1_b6_45, nqb1_b7_45, nqb2_b3_45, nqb2_b4_45, nqb2_b5_45, nqb2_b6_45, nqb2_b7_45, nqb3_b4_45, nqb3_b5_45, nqb3_b6_45, nqb3_b7_45, nqb4_b5_45, nqb4_b6_45, nqb4_b7_45, nqb5_b6_45, nqb5_b7_45, nqb6_b7_45, Fq0_45, Fq1_45, Fq2_45, Fq3_45, Fq4_45, Fq5_45, Fq6_45, Fq7_45, Fq8_45, Fq9_45, Fq10_45, Fq11_45, Fq12_45, Fq13_45, Fq14_45, Fq15_45, Fq16_45, Fq17_45⟩ := hQ45
                have N45 := Fr.app Nj138 Nq45
                refine Go.void (pc' := 155) rfl ?_
                refine g_astore X45 hx hby at_155 (pc' := 157) rfl rfl (L' := #[.val (.int p1), .val (.int p2), .val (.int p3), .val (.int (0 : Int32)), .val (.int (0 : Int32)), .val (.int (0 : Int32)), .val (.int av), .val (.int ra), .val (.ref b1), .val (.ref b5), .val (.int nv), .val (.int v16), .val (.ref b32), .unset, .unset]) rfl ?_
                refine g_aload X45 hx hby at_157 (pc' := 159) rfl rfl rfl ?_
                refine g_iconst X45 hx hby at_159 (pc' := 160) rfl (z := (0 : Int32)) rfl ?_
                refine g_iconst X45 hx hby at_160 (pc' := 161) rfl (z := (0 : Int32)) rfl ?_
                refine Go.of (fun _ k => XS.dconst0 X45.here hx rfl (hb hby at_161) (v := FP.dconst0) rfl k) ?_
                show Go p.tables e below s _ _ _ (T45.setTop (mkF m 162 #[.val (.int p1), .val (.int p2), .val (.int p3), .val (.int (0 : Int32)), .val (.int (0 : Int32)), .val (.int (0 : Int32)), .val (.int av), .val (.int ra), .val (.ref b1), .val (.ref b5), .val (.int nv), .val (.int v16), .val (.ref b32), .unset, .unset] [(.double FP.dconst0), (.int (0 : Int32)), (.int (0 : Int32)), (.ref b32)]))
                refine g_iloadN X45 hx hby at_162 (pc' := 163) rfl rfl ?_
                have f47 := A32.keep Kq45
                have ne48 : b32 ≠ b1_45 := Nat.ne_of_lt (Nat.lt_of_lt_of_le F44.lt sqb1_45)
                have ne49 : b32 ≠ b2_45 := Nat.ne_of_lt (Nat.lt_of_lt_of_le F44.lt sqb2_45)
                have ne50 : b32 ≠ b3_45 := Nat.ne_of_lt (Nat.lt_of_lt_of_le F44.lt sqb3_45)
                have ne51 : b32 ≠ b4_45 := Nat.ne_of_lt (Nat.lt_of_lt_of_le F44.lt sqb4_45)
                have ne52 : b32 ≠ b5_45 := Nat.ne_of_lt (Nat.lt_of_lt_of_le F44.lt sqb5_45)
                have ne53 : b32 ≠ b6_45 := Nat.ne_of_lt (Nat.lt_of_lt_of_le F44.lt sqb6_45)
                refine Go.callV X45 hx hZ hown (wi hw 30 rfl) (wi hw 31 rfl) (notFace_of_selects (args := #[]) (mvT hZ (wi hw 33 rfl))) (wi hw 33 rfl) (wi hw 32 rfl) (wi hw 6 rfl) (wi hw 34 rfl) (by decide) e45 (a := b32) (argsL := [(.int (0 : Int32)), (.int (0 : Int32)), (.double FP.dconst0), (.int p3)]) (rest := []) (W := 0) f47 (rm_addA0 l Z a0 hw b32 (0 : Int32) (0 : Int32) FP.dconst0 p3 b1_45 b2_45 b3_45 b4_45 b5_45 b6_45 b7_45 (fun _ => (0 : Int32)) (fun _ => (0 : Int32)) (fun _ => (0 : Int32)) (fun _ => (0 : Int32)) (fun _ => (0 : UInt64)) (fun _ => (0 : Int32)) (0 : Int32) (0 : Int64) h45 n0 (Nat.le_trans (Nat.le_trans zj138 E32.1) Kq45.1) f47 Fq7_45 Fq6_45 Fq0_45 Fq1_45 Fq2_45 Fq3_45 Fq4_45 Fq5_45 Fq11_45 Fq12_45 Fq13_45 Fq14_45 Fq15_45 Fq16_45 Fq8_45 Fq9_45 Fq10_45 (Ne.symm ne48) (Ne.symm ne49) (Ne.symm ne50) (Ne.symm ne51) (Ne.symm ne52) (Ne.symm ne53) g33) (hb hby at_163) (by rw [hml]; rfl) rfl pd8 rfl rfl (by decide) (by decide) (by decide) (by decide) ?_
                intro v46 T46 L46 X46 hQ46
                obtain ⟨h46, e46⟩ : ∃ z, T46.heap = z := ⟨_, rfl⟩
                rw [e46] at hQ46
                obtain ⟨b1_46, b2_46, b3_46, b4_46, b5_46, rfl, Nq46, Kq46, gqb1_46, sqb1_46, gqb2_46, sqb2_46, gqb3_46, sqb3_46, gqb4_46, sqb4_46, gqb5_46, sqb5_46, nqb1_b2_46, nqb1_b3_46, nqb1_b4_46, nqb1_b5_46, nqb2_b3_46, nqb2_b4_46, nqb2_b5_46, nqb3_b4_46, nqb3_b5_46, nqb4_b5_46, Fq0_46, Fq1_46, Fq2_46, Fq3_46, Fq4_46, Fq5_46, Fq6_46, Fq7_46, Fq8_46, Fq9_46, Fq10_46, Fq11_46, Fq12_46, Fq13_46, Fq14_46, Fq15_46⟩ := hQ46
                have N46 := Fr.app N45 Nq46
                have Fq9_46 : Fld Z h46 b32 kES "count" "I" (.int (1 : Int32)) := Fq9_46
                have Fq10_46 : Fld Z h46 b32 kES "nextNumber" "J" (.long (1 : Int64)) := Fq10_46
                refine Go.push (pc' := 166) rfl ?_
                refine g_istore X46 hx hby at_166 (pc' := 168) rfl (L' := #[.val (.int p1), .val (.int p2), .val (.int p3), .val (.int (0 : Int32)), .val (.int (0 : Int32)), .val (.int (0 : Int32)), .val (.int av), .val (.int ra), .val (.ref b1), .val (.ref b5), .val (.int nv), .val (.int v16), .val (.ref b32), .val (.int (0 : Int32)), .unset]) rfl ?_
                have V54 : ArF Z h46 b1_46 .int 4 (fun i => .int ((own_l [(0 : Int32), (0 : Int32), (0 : Int32), (0 : Int32)]) i)) := Fq11_46.congr (fun i hi => congrArg Value.int ((by decide : ∀ i, i < 4 → (own_l [(0 : Int32), (0 : Int32), (0 : Int32), (0 : Int32)]) i = (upI (fun _ => (0 : Int32)) 0 (0 : Int32)) i) i hi))
                have V55 : ArF Z h46 b2_46 .int 4 (fun i => .int ((own_l [(0 : Int32), (0 : Int32), (0 : Int32), (0 : Int32)]) i)) := Fq12_46.congr (fun i hi => congrArg Value.int ((by decide : ∀ i, i < 4 → (own_l [(0 : Int32), (0 : Int32), (0 : Int32), (0 : Int32)]) i = (upI (fun _ => (0 : Int32)) 0 (0 : Int32)) i) i hi))
                have ne56 : b1 ≠ b32 := Nat.ne_of_lt (by rw [hb32]; exact fj138_0.lt)
                have f57 := (((fj138_0.ext E32).keep Kq45 (ninS ne56 nin0)).keep Kq46 (ninS ne56 nin0))
                refine g_iload X46 hx hby at_168 (pc' := 170) rfl rfl ?_
                have hc170 : (0 : Int) = (0 : Int) := by decide
                refine g_ifYes X46 hx hby at_170 (pc' := 180) (teq (show (0 : Int32) = (0 : Int32) from Int32.toInt_inj.mp hc170)).1 (by decide) (by decide) ?_
                refine g_aload X46 hx hby at_180 (pc' := 182) rfl rfl rfl ?_
                refine g_aload X46 hx hby at_182 (pc' := 184) rfl rfl rfl ?_
                refine g_aconst_null X46 hx hby at_184 (pc' := 185) rfl  ?_
                refine g_aconst_null X46 hx hby at_185 (pc' := 186) rfl  ?_
                have f59 := f47.keep Kq46
                have ne60 : b32 ≠ b7_45 := Nat.ne_of_lt (Nat.lt_of_lt_of_le F44.lt sqb7_45)
                have f61 := (Fq17_45.keep Kq46 (ninS (Ne.symm ne60) nin0))
                have ne62 : b32 ≠ b1_46 := Nat.ne_of_lt (Nat.lt_of_lt_of_le f47.lt sqb1_46)
                have ne63 : b32 ≠ b2_46 := Nat.ne_of_lt (Nat.lt_of_lt_of_le f47.lt sqb2_46)
                have ne64 : b7_45 ≠ b1_46 := Nat.ne_of_lt (Nat.lt_of_lt_of_le Fq17_45.lt sqb1_46)
                have ne65 : b7_45 ≠ b2_46 := Nat.ne_of_lt (Nat.lt_of_lt_of_le Fq17_45.lt sqb2_46)
                have ne66 : b1 ≠ b1_46 := Nat.ne_of_lt (Nat.lt_of_lt_of_le ((fj138_0.ext E32).keep Kq45 (ninS ne56 nin0)).lt sqb1_46)
                have ne67 : b1 ≠ b2_46 := Nat.ne_of_lt (Nat.lt_of_lt_of_le ((fj138_0.ext E32).keep Kq45 (ninS ne56 nin0)).lt sqb2_46)
                refine Go.callV X46 hx hZ hown (wi hw 74 rfl) (wi hw 75 rfl) (notFace_of_selects (args := #[]) (mvT hZ (wi hw 77 rfl))) (wi hw 77 rfl) (wi hw 76 rfl) (wi hw 6 rfl) (wi hw 78 rfl) (by decide) e46 (a := b32) (argsL := [(.ref b1), .null, .null]) (rest := []) (W := 0) f59 (rm_compactA0 l Z a0 hw b32 b1 b1_46 b2_46 b7_45 (0 : Int32) b3_46 b4_46 b5_46 b6_45 (fun _ => (0 : Int64)) h46 n0 (Nat.le_trans (Nat.le_trans (Nat.le_trans zj138 E32.1) Kq45.1) Kq46.1) f59 Fq2_46 Fq3_46 Fq8_46 Fq9_46 Fq1_46 Fq10_46 Fq0_46 Fq4_46 Fq5_46 Fq6_46 Fq7_46 V54 V55 f61 f57 (Ne.symm ne62) (Ne.symm ne63) nqb1_b2_46 (Ne.symm ne60) ne64 ne65 ne56 ne66 ne67 g33 gqb1_46 gqb2_46) (hb hby at_186) (by rw [hml]; rfl) rfl pd9 rfl rfl (by decide) (by decide) (by decide) (by decide) ?_
                intro v58 T58 L58 X58 hQ58
                obtain ⟨h58, e58⟩ : ∃ z, T58.heap = z := ⟨_, rfl⟩
                rw [e58] at hQ58
                obtain ⟨rfl, Nq58, Kq58, Fq0_58, Fq1_58, Fq2_58, Fq3_58, Fq4_58, Fq5_58, Fq6_58, Fq7_58, Fq8_58, Fq9_58, Fq10_58, Fq11_58, Fq12_58⟩ := hQ58
                have N58 := Fr.app N46 Nq58
                refine Go.void (pc' := 189) rfl ?_
                have f68 := (f57.keep Kq58 (ninS ne56 (ninS ne66 (ninS ne67 nin0))))
                refine g_aload X58 hx hby at_189 (pc' := 191) rfl rfl rfl ?_
                refine g_iconst X58 hx hby at_191 (pc' := 192) rfl (z := (0 : Int32)) rfl ?_
                refine g_iconst X58 hx hby at_192 (pc' := 193) rfl (z := (0 : Int32)) rfl ?_
                refine Go.of (fun _ k => XS.dconst0 X58.here hx rfl (hb hby at_193) (v := FP.dconst0) rfl k) ?_
                show Go p.tables e below s _ _ _ (T58.setTop (mkF m 194 #[.val (.int p1), .val (.int p2), .val (.int p3), .val (.int (0 : Int32)), .val (.int (0 : Int32)), .val (.int (0 : Int32)), .val (.int av), .val (.int ra), .val (.ref b1), .val (.ref b5), .val (.int nv), .val (.int v16), .val (.ref b32), .val (.int (0 : Int32)), .unset] [(.double FP.dconst0), (.int (0 : Int32)), (.int (0 : Int32)), (.ref b32)]))
                refine g_iloadN X58 hx hby at_194 (pc' := 195) rfl rfl ?_
                have f70 := f59.keep Kq58
                have ne71 : b32 ≠ b5_46 := Nat.ne_of_lt (Nat.lt_of_lt_of_le f47.lt sqb5_46)
                have f72 := (Fq15_46.keep Kq58 (ninS (Ne.symm ne71) (ninS (Ne.symm nqb1_b5_46) (ninS (Ne.symm nqb2_b5_46) nin0))))
                refine Go.callV X58 hx hZ hown (wi hw 30 rfl) (wi hw 31 rfl) (notFace_of_selects (args := #[]) (mvT hZ (wi hw 33 rfl))) (wi hw 33 rfl) (wi hw 32 rfl) (wi hw 6 rfl) (wi hw 34 rfl) (by decide) e58 (a := b32) (argsL := [(.int (0 : Int32)), (.int (0 : Int32)), (.double FP.dconst0), (.int p3)]) (rest := []) (W := 0) f70 (rm_addB0 l Z a0 hw b32 (0 : Int32) (0 : Int32) FP.dconst0 p3 b1_46 b2_46 b3_46 b4_46 b5_46 b6_45 b7_45 (own_l [(0 : Int32), (0 : Int32), (0 : Int32), (0 : Int32)]) (own_l [(0 : Int32), (0 : Int32), (0 : Int32), (0 : Int32)]) (upD (fun _ => (0 : UInt64)) 0 FP.dconst0) (1 : Int32) (1 : Int32) (1 : Int64) 1 h58 n0 (Nat.le_trans (Nat.le_trans (Nat.le_trans (Nat.le_trans zj138 E32.1) Kq45.1) Kq46.1) Kq58.1) f70 Fq6_58 Fq4_58 Fq0_58 Fq1_58 Fq7_58 Fq8_58 Fq9_58 Fq10_58 Fq11_58 Fq12_58 f72 Fq2_58 Fq3_58 Fq5_58 (Ne.symm ne62) (Ne.symm ne63) (Ne.symm ne71) nqb1_b2_46 nqb1_b5_46 nqb2_b5_46 g33 gqb1_46 gqb2_46 gqb5_46 rfl (by decide)) (hb hby at_195) (by rw [hml]; rfl) rfl pd8 rfl rfl (by decide) (by decide) (by decide) (by decide) ?_
                intro v69 T69 L69 X69 hQ69
                obtain ⟨h69, e69⟩ : ∃ z, T69.heap = z := ⟨_, rfl⟩
                rw [e69] at hQ69
                obtain ⟨rfl, Nq69, Kq69, Fq0_69, Fq1_69, Fq2_69, Fq3_69, Fq4_69, Fq5_69, Fq6_69, Fq7_69, Fq8_69, Fq9_69, Fq10_69, Fq11_69, Fq12_69, Fq13_69⟩ := hQ69
                have N69 := Fr.app N58 Nq69
                have Fq8_69 : Fld Z h69 b32 kES "bound" "I" (.int (2 : Int32)) := Fq8_69
                have Fq9_69 : Fld Z h69 b32 kES "count" "I" (.int (2 : Int32)) := Fq9_69
                have Fq10_69 : Fld Z h69 b32 kES "nextNumber" "J" (.long (2 : Int64)) := Fq10_69
                refine Go.push (pc' := 198) rfl ?_
                refine g_pop X69 hx hby at_198 (pc' := 199) rfl rfl ?_
                have V73 : ArF Z h69 b1_46 .int 4 (fun i => .int ((own_l [(0 : Int32), (0 : Int32), (0 : Int32), (0 : Int32)]) i)) := Fq11_69.congr (fun i hi => congrArg Value.int ((by decide : ∀ i, i < 4 → (own_l [(0 : Int32), (0 : Int32), (0 : Int32), (0 : Int32)]) i = (upI (own_l [(0 : Int32), (0 : Int32), (0 : Int32), (0 : Int32)]) 1 (0 : Int32)) i) i hi))
                have V74 : ArF Z h69 b2_46 .int 4 (fun i => .int ((own_l [(0 : Int32), (0 : Int32), (0 : Int32), (0 : Int32)]) i)) := Fq12_69.congr (fun i hi => congrArg Value.int ((by decide : ∀ i, i < 4 → (own_l [(0 : Int32), (0 : Int32), (0 : Int32), (0 : Int32)]) i = (upI (own_l [(0 : Int32), (0 : Int32), (0 : Int32), (0 : Int32)]) 1 (0 : Int32)) i) i hi))
                have ne75 : b1 ≠ b5_46 := Nat.ne_of_lt (Nat.lt_of_lt_of_le ((fj138_0.ext E32).keep Kq45 (ninS ne56 nin0)).lt sqb5_46)
                have f76 := (f68.keep Kq69 (ninS ne56 (ninS ne66 (ninS ne67 (ninS ne75 nin0)))))
                refine g_aload X69 hx hby at_199 (pc' := 201) rfl rfl rfl ?_
                refine g_iconst X69 hx hby at_201 (pc' := 202) rfl (z := (0 : Int32)) rfl ?_
                refine g_iconst X69 hx hby at_202 (pc' := 203) rfl (z := (0 : Int32)) rfl ?_
                refine Go.of (fun _ k => XS.dconst0 X69.here hx rfl (hb hby at_203) (v := FP.dconst0) rfl k) ?_
                show Go p.tables e below s _ _ _ (T69.setTop (mkF m 204 #[.val (.int p1), .val (.int p2), .val (.int p3), .val (.int (0 : Int32)), .val (.int (0 : Int32)), .val (.int (0 : Int32)), .val (.int av), .val (.int ra), .val (.ref b1), .val (.ref b5), .val (.int nv), .val (.int v16), .val (.ref b32), .val (.int (0 : Int32)), .unset] [(.double FP.dconst0), (.int (0 : Int32)), (.int (0 : Int32)), (.ref b32)]))
                refine g_iloadN X69 hx hby at_204 (pc' := 205) rfl rfl ?_
                have f78 := f70.keep Kq69
                refine Go.callV X69 hx hZ hown (wi hw 30 rfl) (wi hw 31 rfl) (notFace_of_selects (args := #[]) (mvT hZ (wi hw 33 rfl))) (wi hw 33 rfl) (wi hw 32 rfl) (wi hw 6 rfl) (wi hw 34 rfl) (by decide) e69 (a := b32) (argsL := [(.int (0 : Int32)), (.int (0 : Int32)), (.double FP.dconst0), (.int p3)]) (rest := []) (W := 0) f78 (rm_addB0 l Z a0 hw b32 (0 : Int32) (0 : Int32) FP.dconst0 p3 b1_46 b2_46 b3_46 b4_46 b5_46 b6_45 b7_45 (own_l [(0 : Int32), (0 : Int32), (0 : Int32), (0 : Int32)]) (own_l [(0 : Int32), (0 : Int32), (0 : Int32), (0 : Int32)]) (upD (upD (fun _ => (0 : UInt64)) 0 FP.dconst0) 1 FP.dconst0) (2 : Int32) (2 : Int32) (2 : Int64) 2 h69 n0 (Nat.le_trans (Nat.le_trans (Nat.le_trans (Nat.le_trans (Nat.le_trans zj138 E32.1) Kq45.1) Kq46.1) Kq58.1) Kq69.1) f78 Fq0_69 Fq1_69 Fq2_69 Fq3_69 Fq4_69 Fq5_69 Fq6_69 Fq7_69 V73 V74 Fq13_69 Fq8_69 Fq9_69 Fq10_69 (Ne.symm ne62) (Ne.symm ne63) (Ne.symm ne71) nqb1_b2_46 nqb1_b5_46 nqb2_b5_46 g33 gqb1_46 gqb2_46 gqb5_46 rfl (by decide)) (hb hby at_205) (by rw [hml]; rfl) rfl pd8 rfl rfl (by decide) (by decide) (by decide) (by decide) ?_
                intro v77 T77 L77 X77 hQ77
                obtain ⟨h77, e77⟩ : ∃ z, T77.heap = z := ⟨_, rfl⟩
                rw [e77] at hQ77
                obtain ⟨rfl, Nq77, Kq77, Fq0_77, Fq1_77, Fq2_77, Fq3_77, Fq4_77, Fq5_77, Fq6_77, Fq7_77, Fq8_77, Fq9_77, Fq10_77, Fq11_77, Fq12_77, Fq13_77⟩ := hQ77
                have N77 := Fr.app N69 Nq77
                have Fq8_77 : Fld Z h77 b32 kES "bound" "I" (.int (3 : Int32)) := Fq8_77
                have Fq9_77 : Fld Z h77 b32 kES "count" "I" (.int (3 : Int32)) := Fq9_77
                have Fq10_77 : Fld Z h77 b32 kES "nextNumber" "J" (.long (3 : Int64)) := Fq10_77
                refine Go.push (pc' := 208) rfl ?_
                refine g_istore X77 hx hby at_208 (pc' := 210) rfl (L' := #[.val (.int p1), .val (.int p2), .val (.int p3), .val (.int (0 : Int32)), .val (.int (0 : Int32)), .val (.int (0 : Int32)), .val (.int av), .val (.int ra), .val (.ref b1), .val (.ref b5), .val (.int nv), .val (.int v16), .val (.ref b32), .val (.int (0 : Int32)), .val (.int (2 : Int32))]) rfl ?_
                have V79 : ArF Z h77 b1_46 .int 4 (fun i => .int ((own_l [(0 : Int32), (0 : Int32), (0 : Int32), (0 : Int32)]) i)) := Fq11_77.congr (fun i hi => congrArg Value.int ((by decide : ∀ i, i < 4 → (own_l [(0 : Int32), (0 : Int32), (0 : Int32), (0 : Int32)]) i = (upI (own_l [(0 : Int32), (0 : Int32), (0 : Int32), (0 : Int32)]) 2 (0 : Int32)) i) i hi))
                have V80 : ArF Z h77 b2_46 .int 4 (fun i => .int ((own_l [(0 : Int32), (0 : Int32), (0 : Int32), (0 : Int32)]) i)) := Fq12_77.congr (fun i hi => congrArg Value.int ((by decide : ∀ i, i < 4 → (own_l [(0 : Int32), (0 : Int32), (0 : Int32), (0 : Int32)]) i = (upI (own_l [(0 : Int32), (0 : Int32), (0 : Int32), (0 : Int32)]) 2 (0 : Int32)) i) i hi))
                have f81 := (f76.keep Kq77 (ninS ne56 (ninS ne66 (ninS ne67 (ninS ne75 nin0)))))
                refine g_iload X77 hx hby at_210 (pc' := 212) rfl rfl ?_
                have hc212 : (0 : Int) = (0 : Int) := by decide
                refine g_ifYes X77 hx hby at_212 (pc' := 222) (teq (show (0 : Int32) = (0 : Int32) from Int32.toInt_inj.mp hc212)).1 (by decide) (by decide) ?_
                refine g_aload X77 hx hby at_222 (pc' := 224) rfl rfl rfl ?_
                refine g_aload X77 hx hby at_224 (pc' := 226) rfl rfl rfl ?_
                refine g_aconst_null X77 hx hby at_226 (pc' := 227) rfl  ?_
                refine g_aconst_null X77 hx hby at_227 (pc' := 228) rfl  ?_
                have f83 := f78.keep Kq77
                have ne84 : b7_45 ≠ b5_46 := Nat.ne_of_lt (Nat.lt_of_lt_of_le Fq17_45.lt sqb5_46)
                have f85 := (((f61.keep Kq58 (ninS (Ne.symm ne60) (ninS ne64 (ninS ne65 nin0)))).keep Kq69 (ninS (Ne.symm ne60) (ninS ne64 (ninS ne65 (ninS ne84 nin0))))).keep Kq77 (ninS (Ne.symm ne60) (ninS ne64 (ninS ne65 (ninS ne84 nin0)))))
                refine Go.callV X77 hx hZ hown (wi hw 74 rfl) (wi hw 75 rfl) (notFace_of_selects (args := #[]) (mvT hZ (wi hw 77 rfl))) (wi hw 77 rfl) (wi hw 76 rfl) (wi hw 6 rfl) (wi hw 78 rfl) (by decide) e77 (a := b32) (argsL := [(.ref b1), .null, .null]) (rest := []) (W := 0) f83 (rm_compactB00 l Z a0 hw b32 b1 b1_46 b2_46 b7_45 (0 : Int32) b3_46 b4_46 b5_46 b6_45 (fun _ => (0 : Int64)) h77 n0 (Nat.le_trans (Nat.le_trans (Nat.le_trans (Nat.le_trans (Nat.le_trans (Nat.le_trans zj138 E32.1) Kq45.1) Kq46.1) Kq58.1) Kq69.1) Kq77.1) f83 Fq2_77 Fq3_77 Fq8_77 Fq9_77 Fq1_77 Fq10_77 Fq0_77 Fq4_77 Fq5_77 Fq6_77 Fq7_77 V79 V80 f85 f81 (Ne.symm ne62) (Ne.symm ne63) nqb1_b2_46 (Ne.symm ne60) ne64 ne65 ne56 ne66 ne67 g33 gqb1_46 gqb2_46) (hb hby at_228) (by rw [hml]; rfl) rfl pd9 rfl rfl (by decide) (by decide) (by decide) (by decide) ?_
                intro v82 T82 L82 X82 hQ82
                obtain ⟨h82, e82⟩ : ∃ z, T82.heap = z := ⟨_, rfl⟩
                rw [e82] at hQ82
                obtain ⟨rfl, Nq82, Kq82, Fq0_82, Fq1_82, Fq2_82, Fq3_82, Fq4_82, Fq5_82, Fq6_82, Fq7_82, Fq8_82, Fq9_82, Fq10_82, Fq11_82, Fq12_82⟩ := hQ82
                have N82 := Fr.app N77 Nq82
                have z86 : n0 ≤ h82.size := (Nat.le_trans (Nat.le_trans (Nat.le_trans (Nat.le_trans (Nat.le_trans (Nat.le_trans (Nat.le_trans zj138 E32.1) Kq45.1) Kq46.1) Kq58.1) Kq69.1) Kq77.1) Kq82.1)
                refine Go.void (pc' := 231) rfl ?_
                have f87 := (f81.keep Kq82 (ninS ne56 (ninS ne66 (ninS ne67 nin0))))
                have hA0 := hJ52
                rcases hA0 with hA | hA
                · have hA' := congrArg Int32.toInt hA
                  refine g_iload X82 hx hby at_231 (pc' := 233) rfl rfl ?_
                  have hc233 : av.toInt = (0 : Int) := hA'
                  refine g_ifYes X82 hx hby at_233 (pc' := 246) (teq (show av = (0 : Int32) from Int32.toInt_inj.mp hc233)).1 (by decide) (by decide) ?_
                  have ne88 : b5 ≠ b32 := Nat.ne_of_lt (by rw [hb32]; exact fj138_1.lt)
                  have ne89 : b5 ≠ b1_46 := Nat.ne_of_lt (Nat.lt_of_lt_of_le ((fj138_1.ext E32).keep Kq45 (ninS ne88 nin0)).lt sqb1_46)
                  have ne90 : b5 ≠ b2_46 := Nat.ne_of_lt (Nat.lt_of_lt_of_le ((fj138_1.ext E32).keep Kq45 (ninS ne88 nin0)).lt sqb2_46)
                  have f91 := f83.keep Kq82
                  have f92 := (f85.keep Kq82 (ninS (Ne.symm ne60) (ninS ne64 (ninS ne65 nin0))))
                  have ne93 : b5 ≠ b5_46 := Nat.ne_of_lt (Nat.lt_of_lt_of_le ((fj138_1.ext E32).keep Kq45 (ninS ne88 nin0)).lt sqb5_46)
                  have f94 := (((((((fj138_1.ext E32).keep Kq45 (ninS ne88 nin0)).keep Kq46 (ninS ne88 nin0)).keep Kq58 (ninS ne88 (ninS ne89 (ninS ne90 nin0)))).keep Kq69 (ninS ne88 (ninS ne89 (ninS ne90 (ninS ne93 nin0))))).keep Kq77 (ninS ne88 (ninS ne89 (ninS ne90 (ninS ne93 nin0))))).keep Kq82 (ninS ne88 (ninS ne89 (ninS ne90 nin0))))
                  exact J246a0 (T82, _, h82, (0 : Int32), (0 : Int32), (2 : Int32), b32, b1_46, b2_46, b7_45) ⟨X82.more (by decide) (by decide), e82, N82, z86, f91, Fq0_82, Fq1_82, Fq2_82, Fq3_82, Fq4_82, Fq5_82, Fq11_82, Fq12_82, f92, f94, (show b1_46 ≠ b32 ∧ b2_46 ≠ b32 ∧ b1_46 ≠ b2_46 ∧ b7_45 ≠ b32 ∧ b7_45 ≠ b1_46 ∧ b7_45 ≠ b2_46 ∧ b5 ≠ b32 ∧ b5 ≠ b1_46 ∧ b5 ≠ b2_46 ∧ n0 ≤ b32 ∧ n0 ≤ b1_46 ∧ n0 ≤ b2_46 ∧ av = (0 : Int32) from ⟨(Ne.symm ne62), (Ne.symm ne63), nqb1_b2_46, (Ne.symm ne60), ne64, ne65, ne88, ne89, ne90, g33, gqb1_46, gqb2_46, hA⟩)⟩
                · have hA' := congrArg Int32.toInt hA
                  refine g_iload X82 hx hby at_231 (pc' := 233) rfl rfl ?_
                  have hc233 : ¬ (av.toInt = (0 : Int)) := by intro q; rw [hA'] at q; exact absurd q (by decide)
                  refine g_ifNo X82 hx hby at_233 (pc' := 236) (feq (show ¬ (av = (0 : Int32)) from fun q => hc233 (congrArg Int32.toInt q))).1 rfl ?_
                  refine g_aload X82 hx hby at_236 (pc' := 238) rfl rfl rfl ?_
                  refine g_iconst X82 hx hby at_238 (pc' := 239) rfl (z := (0 : Int32)) rfl ?_
                  refine g_iconst X82 hx hby at_239 (pc' := 240) rfl (z := (0 : Int32)) rfl ?_
                  refine Go.of (fun _ k => XS.dconst0 X82.here hx rfl (hb hby at_240) (v := FP.dconst0) rfl k) ?_
                  show Go p.tables e below s _ _ _ (T82.setTop (mkF m 241 #[.val (.int p1), .val (.int p2), .val (.int p3), .val (.int (0 : Int32)), .val (.int (0 : Int32)), .val (.int (0 : Int32)), .val (.int av), .val (.int ra), .val (.ref b1), .val (.ref b5), .val (.int nv), .val (.int v16), .val (.ref b32), .val (.int (0 : Int32)), .val (.int (2 : Int32))] [(.double FP.dconst0), (.int (0 : Int32)), (.int (0 : Int32)), (.ref b32)]))
                  refine g_iloadN X82 hx hby at_241 (pc' := 242) rfl rfl ?_
                  have f96 := f83.keep Kq82
                  have f97 := (Fq13_77.keep Kq82 (ninS (Ne.symm ne71) (ninS (Ne.symm nqb1_b5_46) (ninS (Ne.symm nqb2_b5_46) nin0))))
                  refine Go.callV X82 hx hZ hown (wi hw 30 rfl) (wi hw 31 rfl) (notFace_of_selects (args := #[]) (mvT hZ (wi hw 33 rfl))) (wi hw 33 rfl) (wi hw 32 rfl) (wi hw 6 rfl) (wi hw 34 rfl) (by decide) e82 (a := b32) (argsL := [(.int (0 : Int32)), (.int (0 : Int32)), (.double FP.dconst0), (.int p3)]) (rest := []) (W := 0) f96 (rm_addB0 l Z a0 hw b32 (0 : Int32) (0 : Int32) FP.dconst0 p3 b1_46 b2_46 b3_46 b4_46 b5_46 b6_45 b7_45 (own_l [(0 : Int32), (0 : Int32), (0 : Int32), (0 : Int32)]) (own_l [(0 : Int32), (0 : Int32), (0 : Int32), (0 : Int32)]) (upD (upD (upD (fun _ => (0 : UInt64)) 0 FP.dconst0) 1 FP.dconst0) 2 FP.dconst0) (3 : Int32) (3 : Int32) (3 : Int64) 3 h82 n0 z86 f96 Fq6_82 Fq4_82 Fq0_82 Fq1_82 Fq7_82 Fq8_82 Fq9_82 Fq10_82 Fq11_82 Fq12_82 f97 Fq2_82 Fq3_82 Fq5_82 (Ne.symm ne62) (Ne.symm ne63) (Ne.symm ne71) nqb1_b2_46 nqb1_b5_46 nqb2_b5_46 g33 gqb1_46 gqb2_46 gqb5_46 rfl (by decide)) (hb hby at_242) (by rw [hml]; rfl) rfl pd8 rfl rfl (by decide) (by decide) (by decide) (by decide) ?_
                  intro v95 T95 L95 X95 hQ95
                  obtain ⟨h95, e95⟩ : ∃ z, T95.heap = z := ⟨_, rfl⟩
                  rw [e95] at hQ95
                  obtain ⟨rfl, Nq95, Kq95, Fq0_95, Fq1_95, Fq2_95, Fq3_95, Fq4_95, Fq5_95, Fq6_95, Fq7_95, Fq8_95, Fq9_95, Fq10_95, Fq11_95, Fq12_95, Fq13_95⟩ := hQ95
                  have N95 := Fr.app N82 Nq95
                  have Fq8_95 : Fld Z h95 b32 kES "bound" "I" (.int (4 : Int32)) := Fq8_95
                  have Fq9_95 : Fld Z h95 b32 kES "count" "I" (.int (4 : Int32)) := Fq9_95
                  have Fq10_95 : Fld Z h95 b32 kES "nextNumber" "J" (.long (4 : Int64)) := Fq10_95
                  refine Go.push (pc' := 245) rfl ?_
                  refine g_pop X95 hx hby at_245 (pc' := 246) rfl rfl ?_
                  have V98 : ArF Z h95 b1_46 .int 4 (fun i => .int ((own_l [(0 : Int32), (0 : Int32), (0 : Int32), (0 : Int32)]) i)) := Fq11_95.congr (fun i hi => congrArg Value.int ((by decide : ∀ i, i < 4 → (own_l [(0 : Int32), (0 : Int32), (0 : Int32), (0 : Int32)]) i = (upI (own_l [(0 : Int32), (0 : Int32), (0 : Int32), (0 : Int32)]) 3 (0 : Int32)) i) i hi))
                  have V99 : ArF Z h95 b2_46 .int 4 (fun i => .int ((own_l [(0 : Int32), (0 : Int32), (0 : Int32), (0 : Int32)]) i)) := Fq12_95.congr (fun i hi => congrArg Value.int ((by decide : ∀ i, i < 4 → (own_l [(0 : Int32), (0 : Int32), (0 : Int32), (0 : Int32)]) i = (upI (own_l [(0 : Int32), (0 : Int32), (0 : Int32), (0 : Int32)]) 3 (0 : Int32)) i) i hi))
                  have ne100 : b5 ≠ b32 := Nat.ne_of_lt (by rw [hb32]; exact fj138_1.lt)
                  have ne101 : b5 ≠ b1_46 := Nat.ne_of_lt (Nat.lt_of_lt_of_le ((fj138_1.ext E32).keep Kq45 (ninS ne100 nin0)).lt sqb1_46)
                  have ne102 : b5 ≠ b2_46 := Nat.ne_of_lt (Nat.lt_of_lt_of_le ((fj138_1.ext E32).keep Kq45 (ninS ne100 nin0)).lt sqb2_46)
                  have f103 := f96.keep Kq95
                  have f104 := ((f85.keep Kq82 (ninS (Ne.symm ne60) (ninS ne64 (ninS ne65 nin0)))).keep Kq95 (ninS (Ne.symm ne60) (ninS ne64 (ninS ne65 (ninS ne84 nin0)))))
                  have ne105 : b5 ≠ b5_46 := Nat.ne_of_lt (Nat.lt_of_lt_of_le ((fj138_1.ext E32).keep Kq45 (ninS ne100 nin0)).lt sqb5_46)
                  have f106 := ((((((((fj138_1.ext E32).keep Kq45 (ninS ne100 nin0)).keep Kq46 (ninS ne100 nin0)).keep Kq58 (ninS ne100 (ninS ne101 (ninS ne102 nin0)))).keep Kq69 (ninS ne100 (ninS ne101 (ninS ne102 (ninS ne105 nin0))))).keep Kq77 (ninS ne100 (ninS ne101 (ninS ne102 (ninS ne105 nin0))))).keep Kq82 (ninS ne100 (ninS ne101 (ninS ne102 nin0)))).keep Kq95 (ninS ne100 (ninS ne101 (ninS ne102 (ninS ne105 nin0)))))
                  exact J246a1 (T95, _, h95, (0 : Int32), (0 : Int32), (2 : Int32), b32, b1_46, b2_46, b7_45) ⟨X95.more (by decide) (by decide), e95, N95, (Nat.le_trans z86 Kq95.1), f103, Fq2_95, Fq3_95, Fq8_95, Fq9_95, Fq1_95, Fq10_95, V98, V99, f104, f106, (show b1_46 ≠ b32 ∧ b2_46 ≠ b32 ∧ b1_46 ≠ b2_46 ∧ b7_45 ≠ b32 ∧ b7_45 ≠ b1_46 ∧ b7_45 ≠ b2_46 ∧ b5 ≠ b32 ∧ b5 ≠ b1_46 ∧ b5 ≠ b2_46 ∧ n0 ≤ b32 ∧ n0 ≤ b1_46 ∧ n0 ≤ b2_46 ∧ av = (1 : Int32) from ⟨(Ne.symm ne62), (Ne.symm ne63), nqb1_b2_46, (Ne.symm ne60), ne64, ne65, ne100, ne101, ne102, g33, gqb1_46, gqb2_46, hA⟩)⟩
              · show Go p.tables e below s _ _ _ (Tj138.setTop (mkF m 147 #[.val (.int p1), .val (.int p2), .val (.int p3), .val (.int (1 : Int32)), .val (.int (0 : Int32)), .val (.int (0 : Int32)), .val (.int av), .val (.int ra), .val (.ref b1), .val (.ref b5), .val (.int nv), .val (.int v16), .unset, .unset, .unset] []))
                refine g_new Xj138 hx hby hZ hown (wi hw 4 rfl) (wi hw 5 rfl) (wi hw 6 rfl) ej138 at_147 (pc' := 150) rfl (by decide) (by decide) ?_
                intro T107 h107 b107 X107 e107 E107 hb107 A107 D107
                have g108 : n0 ≤ b107 := by rw [hb107]; exact zj138
                have F109 : Fld Z h107 b107 "com/example/edgewise/edgewise/EdgeSlots" "sources" "[I" .null := D107 (Or.inl (wi hw 14 rfl)) (ty := (.array .int)) (by decide)
                have F110 : Fld Z h107 b107 "com/example/edgewise/edgewise/EdgeSlots" "targets" "[I" .null := D107 (Or.inl (wi hw 16 rfl)) (ty := (.array .int)) (by decide)
                have F111 : Fld Z h107 b107 "com/example/edgewise/edgewise/EdgeSlots" "sourcePositions" "[I" .null := D107 (Or.inl (wi hw 18 rfl)) (ty := (.array .int)) (by decide)
                have F112 : Fld Z h107 b107 "com/example/edgewise/edgewise/EdgeSlots" "targetPositions" "[I" .null := D107 (Or.inl (wi hw 20 rfl)) (ty := (.array .int)) (by decide)
                have F113 : Fld Z h107 b107 "com/example/edgewise/edgewise/EdgeSlots" "weights" "[D" .null := D107 (Or.inl (wi hw 23 rfl)) (ty := (.array .double)) (by decide)
                have F114 : Fld Z h107 b107 "com/example/edgewise/edgewise/EdgeSlots" "keys" "[I" .null := D107 (Or.inl (wi hw 25 rfl)) (ty := (.array .int)) (by decide)
                have F115 : Fld Z h107 b107 "com/example/edgewise/edgewise/EdgeSlots" "keptNumbers" "[J" .null := D107 (Or.inl (wi hw 27 rfl)) (ty := (.array .long)) (by decide)
                have F116 : Fld Z h107 b107 "com/example/edgewise/edgewise/EdgeSlots" "keyed" "Z" (.int (0 : Int32)) := D107 (Or.inr (wi hw 29 rfl)) (ty := .boolean) (by decide)
                have F117 : Fld Z h107 b107 "com/example/edgewise/edgewise/EdgeSlots" "bound" "I" (.int (0 : Int32)) := D107 (Or.inl (wi hw 36 rfl)) (ty := .int) (by decide)
                have F118 : Fld Z h107 b107 "com/example/edgewise/edgewise/EdgeSlots" "count" "I" (.int (0 : Int32)) := D107 (Or.inl (wi hw 71 rfl)) (ty := .int) (by decide)
                have F119 : Fld Z h107 b107 "com/example/edgewise/edgewise/EdgeSlots" "nextNumber" "J" (.long (0 : Int64)) := D107 (Or.inl (wi hw 73 rfl)) (ty := .long) (by decide)
                refine g_dup X107 hx hby at_150 (pc' := 151) rfl rfl ?_
                refine g_iloadN X107 hx hby at_151 (pc' := 152) rfl rfl ?_
                refine Go.callI X107 hx hZ hown rfl (wi hw 7 rfl) (wi hw 8 rfl) (wi hw 6 rfl) (wi hw 9 rfl) (by decide) e107 (a := b107) (argsL := [(.int (1 : Int32))]) (rest := [(.ref b107)]) (W := 1) (rm_init1 l Z a0 hw b107 h107 n0 (Nat.le_trans zj138 E107.1) A107 F109 F110 F111 F112 F113 F114 F115 F116 F117 F118 F119 g108) (hb hby at_152) (by rw [hml]; rfl) rfl pd7 rfl rfl (by decide) (by decide) (by decide) (by decide) ?_
                intro v120 T120 L120 X120 hQ120
                obtain ⟨h120, e120⟩ : ∃ z, T120.heap = z := ⟨_, rfl⟩
                rw [e120] at hQ120
                obtain ⟨b1_120, b2_120, b3_120, b4_120, b5_120, b6_120, b7_120, rfl, Nq120, Kq120, gqb1_120, sqb1_120, gqb2_120, sqb2_120, gqb3_120, sqb3_120, gqb4_120, sqb4_120, gqb5_120, sqb5_120, gqb6_120, sqb6_120, gqb7_120, sqb7_120, nqb1_b2_120, nqb1_b3_120, nqb1_b4_120, nqb1_b5_120, nqb1_b6_120, nqb1_b7_120, nqb2_b3_120, nqb2_b4_120, nqb2_b5_120, nqb2_b6_120, nqb2_b7_120, nqb3_b4_120, nqb3_b5_120, nqb3_b6_120, nqb3_b7_120, nqb4_b5_120, nqb4_b6_120, nqb4_b7_120, nqb5_b6_120, nqb5_b7_120, nqb6_b7_120, Fq0_120, Fq1_120, Fq2_120, Fq3_120, Fq4_120, Fq5_120, Fq6_120, Fq7_120, Fq8_120, Fq9_120, Fq10_120, Fq11_120, Fq12_120, Fq13_120, Fq14_120, Fq15_120, Fq16_120, Fq17_120⟩ := hQ120
                have N120 := Fr.app Nj138 Nq120
                refine Go.void (pc' := 155) rfl ?_
                refine g_astore X120 hx hby at_155 (pc' := 157) rfl rfl (L' := #[.val (.int p1), .val (.int p2), .val (.int p3), .val (.int (1 : Int32)), .val (.int (0 : Int32)), .val (.int (0 : Int32)), .val (.int av), .val (.int ra), .val (.ref b1), .val (.ref b5), .val (.int nv), .val (.int v16), .val (.ref b107), .unset, .unset]) rfl ?_
                refine g_aload X120 hx hby at_157 (pc' := 159) rfl rfl rfl ?_
                refine g_iconst X120 hx hby at_159 (pc' := 160) rfl (z := (0 : Int32)) rfl ?_
                refine g_iconst X120 hx hby at_160 (pc' := 161) rfl (z := (0 : Int32)) rfl ?_
                refine Go.of (fun _ k => XS.dconst0 X120.here hx rfl (hb hby at_161) (v := FP.dconst0) rfl k) ?_
                show Go p.tables e below s _ _ _ (T120.setTop (mkF m 162 #[.val (.int p1), .val (.int p2), .val (.int p3), .val (.int (1 : Int32)), .val (.int (0 : Int32)), .val (.int (0 : Int32)), .val (.int av), .val (.int ra), .val (.ref b1), .val (.ref b5), .val (.int nv), .val (.int v16), .val (.ref b107), .unset, .unset] [(.double FP.dconst0), (.int (0 : Int32)), (.int (0 : Int32)), (.ref b107)]))
                refine g_iloadN X120 hx hby at_162 (pc' := 163) rfl rfl ?_
                have f122 := A107.keep Kq120
                have ne123 : b107 ≠ b1_120 := Nat.ne_of_lt (Nat.lt_of_lt_of_le F119.lt sqb1_120)
                have ne124 : b107 ≠ b2_120 := Nat.ne_of_lt (Nat.lt_of_lt_of_le F119.lt sqb2_120)
                have ne125 : b107 ≠ b3_120 := Nat.ne_of_lt (Nat.lt_of_lt_of_le F119.lt sqb3_120)
                have ne126 : b107 ≠ b4_120 := Nat.ne_of_lt (Nat.lt_of_lt_of_le F119.lt sqb4_120)
                have ne127 : b107 ≠ b5_120 := Nat.ne_of_lt (Nat.lt_of_lt_of_le F119.lt sqb5_120)
                have ne128 : b107 ≠ b6_120 := Nat.ne_of_lt (Nat.lt_of_lt_of_le F119.lt sqb6_120)
                refine Go.callV X120 hx hZ hown (wi hw 30 rfl) (wi hw 31 rfl) (notFace_of_selects (args := #[]) (mvT hZ (wi hw 33 rfl))) (wi hw 33 rfl) (wi hw 32 rfl) (wi hw 6 rfl) (wi hw 34 rfl) (by decide) e120 (a := b107) (argsL := [(.int (0 : Int32)), (.int (0 : Int32)), (.double FP.dconst0), (.int p3)]) (rest := []) (W := 0) f122 (rm_addA1 l Z a0 hw b107 (0 : Int32) (0 : Int32) FP.dconst0 p3 b1_120 b2_120 b3_120 b4_120 b5_120 b6_120 b7_120 (fun _ => (0 : Int32)) (fun _ => (0 : Int32)) (fun _ => (0 : Int32)) (fun _ => (0 : Int32)) (fun _ => (0 : UInt64)) (fun _ => (0 : Int32)) (0 : Int32) (0 : Int64) h120 n0 (Nat.le_trans (Nat.le_trans zj138 E107.1) Kq120.1) f122 Fq7_120 Fq6_120 Fq0_120 Fq1_120 Fq2_120 Fq3_120 Fq4_120 Fq5_120 Fq11_120 Fq12_120 Fq13_120 Fq14_120 Fq15_120 Fq16_120 Fq8_120 Fq9_120 Fq10_120 (Ne.symm ne123) (Ne.symm ne124) (Ne.symm ne125) (Ne.symm ne126) (Ne.symm ne127) (Ne.symm ne128) g108) (hb hby at_163) (by rw [hml]; rfl) rfl pd8 rfl rfl (by decide) (by decide) (by decide) (by decide) ?_
                intro v121 T121 L121 X121 hQ121
                obtain ⟨h121, e121⟩ : ∃ z, T121.heap = z := ⟨_, rfl⟩
                rw [e121] at hQ121
                obtain ⟨b1_121, b2_121, b3_121, b4_121, b5_121, b6_121, rfl, Nq121, Kq121, gqb1_121, sqb1_121, gqb2_121, sqb2_121, gqb3_121, sqb3_121, gqb4_121, sqb4_121, gqb5_121, sqb5_121, gqb6_121, sqb6_121, nqb1_b2_121, nqb1_b3_121, nqb1_b4_121, nqb1_b5_121, nqb1_b6_121, nqb2_b3_121, nqb2_b4_121, nqb2_b5_121, nqb2_b6_121, nqb3_b4_121, nqb3_b5_121, nqb3_b6_121, nqb4_b5_121, nqb4_b6_121, nqb5_b6_121, Fq0_121, Fq1_121, Fq2_121, Fq3_121, Fq4_121, Fq5_121, Fq6_121, Fq7_121, Fq8_121, Fq9_121, Fq10_121, Fq11_121, Fq12_121, Fq13_121, Fq14_121, Fq15_121, Fq16_121⟩ := hQ121
                have N121 := Fr.app N120 Nq121
                have Fq9_121 : Fld Z h121 b107 kES "count" "I" (.int (1 : Int32)) := Fq9_121
                have Fq10_121 : Fld Z h121 b107 kES "nextNumber" "J" (.long (1 : Int64)) := Fq10_121
                refine Go.push (pc' := 166) rfl ?_
                refine g_istore X121 hx hby at_166 (pc' := 168) rfl (L' := #[.val (.int p1), .val (.int p2), .val (.int p3), .val (.int (1 : Int32)), .val (.int (0 : Int32)), .val (.int (0 : Int32)), .val (.int av), .val (.int ra), .val (.ref b1), .val (.ref b5), .val (.int nv), .val (.int v16), .val (.ref b107), .val (.int (0 : Int32)), .unset]) rfl ?_
                have V129 : ArF Z h121 b1_121 .int 4 (fun i => .int ((own_l [(0 : Int32), (0 : Int32), (0 : Int32), (0 : Int32)]) i)) := Fq11_121.congr (fun i hi => congrArg Value.int ((by decide : ∀ i, i < 4 → (own_l [(0 : Int32), (0 : Int32), (0 : Int32), (0 : Int32)]) i = (upI (fun _ => (0 : Int32)) 0 (0 : Int32)) i) i hi))
                have V130 : ArF Z h121 b2_121 .int 4 (fun i => .int ((own_l [(0 : Int32), (0 : Int32), (0 : Int32), (0 : Int32)]) i)) := Fq12_121.congr (fun i hi => congrArg Value.int ((by decide : ∀ i, i < 4 → (own_l [(0 : Int32), (0 : Int32), (0 : Int32), (0 : Int32)]) i = (upI (fun _ => (0 : Int32)) 0 (0 : Int32)) i) i hi))
                have ne131 : b1 ≠ b107 := Nat.ne_of_lt (by rw [hb107]; exact fj138_0.lt)
                have f132 := (((fj138_0.ext E107).keep Kq120 (ninS ne131 nin0)).keep Kq121 (ninS ne131 nin0))
                refine g_iload X121 hx hby at_168 (pc' := 170) rfl rfl ?_
                have hc170 : (0 : Int) = (0 : Int) := by decide
                refine g_ifYes X121 hx hby at_170 (pc' := 180) (teq (show (0 : Int32) = (0 : Int32) from Int32.toInt_inj.mp hc170)).1 (by decide) (by decide) ?_
                refine g_aload X121 hx hby at_180 (pc' := 182) rfl rfl rfl ?_
                refine g_aload X121 hx hby at_182 (pc' := 184) rfl rfl rfl ?_
                refine g_aconst_null X121 hx hby at_184 (pc' := 185) rfl  ?_
                refine g_aconst_null X121 hx hby at_185 (pc' := 186) rfl  ?_
                have f134 := f122.keep Kq121
                have ne135 : b107 ≠ b7_120 := Nat.ne_of_lt (Nat.lt_of_lt_of_le F119.lt sqb7_120)
                have f136 := (Fq17_120.keep Kq121 (ninS (Ne.symm ne135) nin0))
                have ne137 : b107 ≠ b1_121 := Nat.ne_of_lt (Nat.lt_of_lt_of_le f122.lt sqb1_121)
                have ne138 : b107 ≠ b2_121 := Nat.ne_of_lt (Nat.lt_of_lt_of_le f122.lt sqb2_121)
                have ne139 : b7_120 ≠ b1_121 := Nat.ne_of_lt (Nat.lt_of_lt_of_le Fq17_120.lt sqb1_121)
                have ne140 : b7_120 ≠ b2_121 := Nat.ne_of_lt (Nat.lt_of_lt_of_le Fq17_120.lt sqb2_121)
                have ne141 : b1 ≠ b1_121 := Nat.ne_of_lt (Nat.lt_of_lt_of_le ((fj138_0.ext E107).keep Kq120 (ninS ne131 nin0)).lt sqb1_121)
                have ne142 : b1 ≠ b2_121 := Nat.ne_of_lt (Nat.lt_of_lt_of_le ((fj138_0.ext E107).keep Kq120 (ninS ne131 nin0)).lt sqb2_121)
                refine Go.callV X121 hx hZ hown (wi hw 74 rfl) (wi hw 75 rfl) (notFace_of_selects (args := #[]) (mvT hZ (wi hw 77 rfl))) (wi hw 77 rfl) (wi hw 76 rfl) (wi hw 6 rfl) (wi hw 78 rfl) (by decide) e121 (a := b107) (argsL := [(.ref b1), .null, .null]) (rest := []) (W := 0) f134 (rm_compactA0 l Z a0 hw b107 b1 b1_121 b2_121 b7_120 (1 : Int32) b3_121 b4_121 b5_121 b6_121 (fun _ => (0 : Int64)) h121 n0 (Nat.le_trans (Nat.le_trans (Nat.le_trans zj138 E107.1) Kq120.1) Kq121.1) f134 Fq2_121 Fq3_121 Fq8_121 Fq9_121 Fq1_121 Fq10_121 Fq0_121 Fq4_121 Fq5_121 Fq6_121 Fq7_121 V129 V130 f136 f132 (Ne.symm ne137) (Ne.symm ne138) nqb1_b2_121 (Ne.symm ne135) ne139 ne140 ne131 ne141 ne142 g108 gqb1_121 gqb2_121) (hb hby at_186) (by rw [hml]; rfl) rfl pd9 rfl rfl (by decide) (by decide) (by decide) (by decide) ?_
                intro v133 T133 L133 X133 hQ133
                obtain ⟨h133, e133⟩ : ∃ z, T133.heap = z := ⟨_, rfl⟩
                rw [e133] at hQ133
                obtain ⟨rfl, Nq133, Kq133, Fq0_133, Fq1_133, Fq2_133, Fq3_133, Fq4_133, Fq5_133, Fq6_133, Fq7_133, Fq8_133, Fq9_133, Fq10_133, Fq11_133, Fq12_133⟩ := hQ133
                have N133 := Fr.app N121 Nq133
                refine Go.void (pc' := 189) rfl ?_
                have f143 := (f132.keep Kq133 (ninS ne131 (ninS ne141 (ninS ne142 nin0))))
                refine g_aload X133 hx hby at_189 (pc' := 191) rfl rfl rfl ?_
                refine g_iconst X133 hx hby at_191 (pc' := 192) rfl (z := (0 : Int32)) rfl ?_
                refine g_iconst X133 hx hby at_192 (pc' := 193) rfl (z := (0 : Int32)) rfl ?_
                refine Go.of (fun _ k => XS.dconst0 X133.here hx rfl (hb hby at_193) (v := FP.dconst0) rfl k) ?_
                show Go p.tables e below s _ _ _ (T133.setTop (mkF m 194 #[.val (.int p1), .val (.int p2), .val (.int p3), .val (.int (1 : Int32)), .val (.int (0 : Int32)), .val (.int (0 : Int32)), .val (.int av), .val (.int ra), .val (.ref b1), .val (.ref b5), .val (.int nv), .val (.int v16), .val (.ref b107), .val (.int (0 : Int32)), .unset] [(.double FP.dconst0), (.int (0 : Int32)), (.int (0 : Int32)), (.ref b107)]))
                refine g_iloadN X133 hx hby at_194 (pc' := 195) rfl rfl ?_
                have f145 := f134.keep Kq133
                have ne146 : b107 ≠ b5_121 := Nat.ne_of_lt (Nat.lt_of_lt_of_le f122.lt sqb5_121)
                have f147 := (Fq15_121.keep Kq133 (ninS (Ne.symm ne146) (ninS (Ne.symm nqb1_b5_121) (ninS (Ne.symm nqb2_b5_121) nin0))))
                have ne148 : b107 ≠ b6_121 := Nat.ne_of_lt (Nat.lt_of_lt_of_le f122.lt sqb6_121)
                have f149 := (Fq16_121.keep Kq133 (ninS (Ne.symm ne148) (ninS (Ne.symm nqb1_b6_121) (ninS (Ne.symm nqb2_b6_121) nin0))))
                refine Go.callV X133 hx hZ hown (wi hw 30 rfl) (wi hw 31 rfl) (notFace_of_selects (args := #[]) (mvT hZ (wi hw 33 rfl))) (wi hw 33 rfl) (wi hw 32 rfl) (wi hw 6 rfl) (wi hw 34 rfl) (by decide) e133 (a := b107) (argsL := [(.int (0 : Int32)), (.int (0 : Int32)), (.double FP.dconst0), (.int p3)]) (rest := []) (W := 0) f145 (rm_addB1 l Z a0 hw b107 (0 : Int32) (0 : Int32) FP.dconst0 p3 b1_121 b2_121 b3_121 b4_121 b5_121 b6_121 b7_120 (own_l [(0 : Int32), (0 : Int32), (0 : Int32), (0 : Int32)]) (own_l [(0 : Int32), (0 : Int32), (0 : Int32), (0 : Int32)]) (upD (fun _ => (0 : UInt64)) 0 FP.dconst0) (upI (fun _ => (0 : Int32)) 0 p3) (1 : Int32) (1 : Int32) (1 : Int64) 1 h133 n0 (Nat.le_trans (Nat.le_trans (Nat.le_trans (Nat.le_trans zj138 E107.1) Kq120.1) Kq121.1) Kq133.1) f145 Fq6_133 Fq4_133 Fq0_133 Fq1_133 Fq7_133 Fq8_133 Fq9_133 Fq10_133 Fq11_133 Fq12_133 f147 f149 Fq2_133 Fq3_133 Fq5_133 (Ne.symm ne137) (Ne.symm ne138) (Ne.symm ne146) (Ne.symm ne148) nqb1_b2_121 nqb1_b5_121 nqb1_b6_121 nqb2_b5_121 nqb2_b6_121 nqb5_b6_121 g108 gqb1_121 gqb2_121 gqb5_121 gqb6_121 rfl (by decide)) (hb hby at_195) (by rw [hml]; rfl) rfl pd8 rfl rfl (by decide) (by decide) (by decide) (by decide) ?_
                intro v144 T144 L144 X144 hQ144
                obtain ⟨h144, e144⟩ : ∃ z, T144.heap = z := ⟨_, rfl⟩
                rw [e144] at hQ144
                obtain ⟨rfl, Nq144, Kq144, Fq0_144, Fq1_144, Fq2_144, Fq3_144, Fq4_144, Fq5_144, Fq6_144, Fq7_144, Fq8_144, Fq9_144, Fq10_144, Fq11_144, Fq12_144, Fq13_144, Fq14_144⟩ := hQ144
                have N144 := Fr.app N133 Nq144
                have Fq8_144 : Fld Z h144 b107 kES "bound" "I" (.int (2 : Int32)) := Fq8_144
                have Fq9_144 : Fld Z h144 b107 kES "count" "I" (.int (2 : Int32)) := Fq9_144
                have Fq10_144 : Fld Z h144 b107 kES "nextNumber" "J" (.long (2 : Int64)) := Fq10_144
                refine Go.push (pc' := 198) rfl ?_
                refine g_pop X144 hx hby at_198 (pc' := 199) rfl rfl ?_
                have V150 : ArF Z h144 b1_121 .int 4 (fun i => .int ((own_l [(0 : Int32), (0 : Int32), (0 : Int32), (0 : Int32)]) i)) := Fq11_144.congr (fun i hi => congrArg Value.int ((by decide : ∀ i, i < 4 → (own_l [(0 : Int32), (0 : Int32), (0 : Int32), (0 : Int32)]) i = (upI (own_l [(0 : Int32), (0 : Int32), (0 : Int32), (0 : Int32)]) 1 (0 : Int32)) i) i hi))
                have V151 : ArF Z h144 b2_121 .int 4 (fun i => .int ((own_l [(0 : Int32), (0 : Int32), (0 : Int32), (0 : Int32)]) i)) := Fq12_144.congr (fun i hi => congrArg Value.int ((by decide : ∀ i, i < 4 → (own_l [(0 : Int32), (0 : Int32), (0 : Int32), (0 : Int32)]) i = (upI (own_l [(0 : Int32), (0 : Int32), (0 : Int32), (0 : Int32)]) 1 (0 : Int32)) i) i hi))
                have ne152 : b1 ≠ b6_121 := Nat.ne_of_lt (Nat.lt_of_lt_of_le ((fj138_0.ext E107).keep Kq120 (ninS ne131 nin0)).lt sqb6_121)
                have ne153 : b1 ≠ b5_121 := Nat.ne_of_lt (Nat.lt_of_lt_of_le ((fj138_0.ext E107).keep Kq120 (ninS ne131 nin0)).lt sqb5_121)
                have f154 := (f143.keep Kq144 (ninS ne131 (ninS ne141 (ninS ne142 (ninS ne153 (ninS ne152 nin0))))))
                refine g_aload X144 hx hby at_199 (pc' := 201) rfl rfl rfl ?_
                refine g_iconst X144 hx hby at_201 (pc' := 202) rfl (z := (0 : Int32)) rfl ?_
                refine g_iconst X144 hx hby at_202 (pc' := 203) rfl (z := (0 : Int32)) rfl ?_
                refine Go.of (fun _ k => XS.dconst0 X144.here hx rfl (hb hby at_203) (v := FP.dconst0) rfl k) ?_
                show Go p.tables e below s _ _ _ (T144.setTop (mkF m 204 #[.val (.int p1), .val (.int p2), .val (.int p3), .val (.int (1 : Int32)), .val (.int (0 : Int32)), .val (.int (0 : Int32)), .val (.int av), .val (.int ra), .val (.ref b1), .val (.ref b5), .val (.int nv), .val (.int v16), .val (.ref b107), .val (.int (0 : Int32)), .unset] [(.double FP.dconst0), (.int (0 : Int32)), (.int (0 : Int32)), (.ref b107)]))
                refine g_iloadN X144 hx hby at_204 (pc' := 205) rfl rfl ?_
                have f156 := f145.keep Kq144
                refine Go.callV X144 hx hZ hown (wi hw 30 rfl) (wi hw 31 rfl) (notFace_of_selects (args := #[]) (mvT hZ (wi hw 33 rfl))) (wi hw 33 rfl) (wi hw 32 rfl) (wi hw 6 rfl) (wi hw 34 rfl) (by decide) e144 (a := b107) (argsL := [(.int (0 : Int32)), (.int (0 : Int32)), (.double FP.dconst0), (.int p3)]) (rest := []) (W := 0) f156 (rm_addB1 l Z a0 hw b107 (0 : Int32) (0 : Int32) FP.dconst0 p3 b1_121 b2_121 b3_121 b4_121 b5_121 b6_121 b7_120 (own_l [(0 : Int32), (0 : Int32), (0 : Int32), (0 : Int32)]) (own_l [(0 : Int32), (0 : Int32), (0 : Int32), (0 : Int32)]) (upD (upD (fun _ => (0 : UInt64)) 0 FP.dconst0) 1 FP.dconst0) (upI (upI (fun _ => (0 : Int32)) 0 p3) 1 p3) (2 : Int32) (2 : Int32) (2 : Int64) 2 h144 n0 (Nat.le_trans (Nat.le_trans (Nat.le_trans (Nat.le_trans (Nat.le_trans zj138 E107.1) Kq120.1) Kq121.1) Kq133.1) Kq144.1) f156 Fq0_144 Fq1_144 Fq2_144 Fq3_144 Fq4_144 Fq5_144 Fq6_144 Fq7_144 V150 V151 Fq13_144 Fq14_144 Fq8_144 Fq9_144 Fq10_144 (Ne.symm ne137) (Ne.symm ne138) (Ne.symm ne146) (Ne.symm ne148) nqb1_b2_121 nqb1_b5_121 nqb1_b6_121 nqb2_b5_121 nqb2_b6_121 nqb5_b6_121 g108 gqb1_121 gqb2_121 gqb5_121 gqb6_121 rfl (by decide)) (hb hby at_205) (by rw [hml]; rfl) rfl pd8 rfl rfl (by decide) (by decide) (by decide) (by decide) ?_
                intro v155 T155 L155 X155 hQ155
                obtain ⟨h155, e155⟩ : ∃ z, T155.heap = z := ⟨_, rfl⟩
                rw [e155] at hQ155
                obtain ⟨rfl, Nq155, Kq155, Fq0_155, Fq1_155, Fq2_155, Fq3_155, Fq4_155, Fq5_155, Fq6_155, Fq7_155, Fq8_155, Fq9_155, Fq10_155, Fq11_155, Fq12_155, Fq13_155, Fq14_155⟩ := hQ155
                have N155 := Fr.app N144 Nq155
                have Fq8_155 : Fld Z h155 b107 kES "bound" "I" (.int (3 : Int32)) := Fq8_155
                have Fq9_155 : Fld Z h155 b107 kES "count" "I" (.int (3 : Int32)) := Fq9_155
                have Fq10_155 : Fld Z h155 b107 kES "nextNumber" "J" (.long (3 : Int64)) := Fq10_155
                refine Go.push (pc' := 208) rfl ?_
                refine g_istore X155 hx hby at_208 (pc' := 210) rfl (L' := #[.val (.int p1), .val (.int p2), .val (.int p3), .val (.int (1 : Int32)), .val (.int (0 : Int32)), .val (.int (0 : Int32)), .val (.int av), .val (.int ra), .val (.ref b1), .val (.ref b5), .val (.int nv), .val (.int v16), .val (.ref b107), .val (.int (0 : Int32)), .val (.int (2 : Int32))]) rfl ?_
                have V157 : ArF Z h155 b1_121 .int 4 (fun i => .int ((own_l [(0 : Int32), (0 : Int32), (0 : Int32), (0 : Int32)]) i)) := Fq11_155.congr (fun i hi => congrArg Value.int ((by decide : ∀ i, i < 4 → (own_l [(0 : Int32), (0 : Int32), (0 : Int32), (0 : Int32)]) i = (upI (own_l [(0 : Int32), (0 : Int32), (0 : Int32), (0 : Int32)]) 2 (0 : Int32)) i) i hi))
                have V158 : ArF Z h155 b2_121 .int 4 (fun i => .int ((own_l [(0 : Int32), (0 : Int32), (0 : Int32), (0 : Int32)]) i)) := Fq12_155.congr (fun i hi => congrArg Value.int ((by decide : ∀ i, i < 4 → (own_l [(0 : Int32), (0 : Int32), (0 : Int32), (0 : Int32)]) i = (upI (own_l [(0 : Int32), (0 : Int32), (0 : Int32), (0 : Int32)]) 2 (0 : Int32)) i) i hi))
                have f159 := (f154.keep Kq155 (ninS ne131 (ninS ne141 (ninS ne142 (ninS ne153 (ninS ne152 nin0))))))
                refine g_iload X155 hx hby at_210 (pc' := 212) rfl rfl ?_
                have hc212 : (0 : Int) = (0 : Int) := by decide
                refine g_ifYes X155 hx hby at_212 (pc' := 222) (teq (show (0 : Int32) = (0 : Int32) from Int32.toInt_inj.mp hc212)).1 (by decide) (by decide) ?_
                refine g_aload X155 hx hby at_222 (pc' := 224) rfl rfl rfl ?_
                refine g_aload X155 hx hby at_224 (pc' := 226) rfl rfl rfl ?_
                refine g_aconst_null X155 hx hby at_226 (pc' := 227) rfl  ?_
                refine g_aconst_null X155 hx hby at_227 (pc' := 228) rfl  ?_
                have f161 := f156.keep Kq155
                have ne162 : b7_120 ≠ b6_121 := Nat.ne_of_lt (Nat.lt_of_lt_of_le Fq17_120.lt sqb6_121)
                have ne163 : b7_120 ≠ b5_121 := Nat.ne_of_lt (Nat.lt_of_lt_of_le Fq17_120.lt sqb5_121)
                have f164 := (((f136.keep Kq133 (ninS (Ne.symm ne135) (ninS ne139 (ninS ne140 nin0)))).keep Kq144 (ninS (Ne.symm ne135) (ninS ne139 (ninS ne140 (ninS ne163 (ninS ne162 nin0)))))).keep Kq155 (ninS (Ne.symm ne135) (ninS ne139 (ninS ne140 (ninS ne163 (ninS ne162 nin0))))))
                refine Go.callV X155 hx hZ hown (wi hw 74 rfl) (wi hw 75 rfl) (notFace_of_selects (args := #[]) (mvT hZ (wi hw 77 rfl))) (wi hw 77 rfl) (wi hw 76 rfl) (wi hw 6 rfl) (wi hw 78 rfl) (by decide) e155 (a := b107) (argsL := [(.ref b1), .null, .null]) (rest := []) (W := 0) f161 (rm_compactB00 l Z a0 hw b107 b1 b1_121 b2_121 b7_120 (1 : Int32) b3_121 b4_121 b5_121 b6_121 (fun _ => (0 : Int64)) h155 n0 (Nat.le_trans (Nat.le_trans (Nat.le_trans (Nat.le_trans (Nat.le_trans (Nat.le_trans zj138 E107.1) Kq120.1) Kq121.1) Kq133.1) Kq144.1) Kq155.1) f161 Fq2_155 Fq3_155 Fq8_155 Fq9_155 Fq1_155 Fq10_155 Fq0_155 Fq4_155 Fq5_155 Fq6_155 Fq7_155 V157 V158 f164 f159 (Ne.symm ne137) (Ne.symm ne138) nqb1_b2_121 (Ne.symm ne135) ne139 ne140 ne131 ne141 ne142 g108 gqb1_121 gqb2_121) (hb hby at_228) (by rw [hml]; rfl) rfl pd9 rfl rfl (by decide) (by decide) (by decide) (by decide) ?_
                intro v160 T160 L160 X160 hQ160
                obtain ⟨h160, e160⟩ : ∃ z, T160.heap = z := ⟨_, rfl⟩
                rw [e160] at hQ160
                obtain ⟨rfl, Nq160, Kq160, Fq0_160, Fq1_160, Fq2_160, Fq3_160, Fq4_160, Fq5_160, Fq6_160, Fq7_160, Fq8_160, Fq9_160, Fq10_160, Fq11_160, Fq12_160⟩ := hQ160
                have N160 := Fr.app N155 Nq160
                have z165 : n0 ≤ h160.size := (Nat.le_trans (Nat.le_trans (Nat.le_trans (Nat.le_trans (Nat.le_trans (Nat.le_trans (Nat.le_trans zj138 E107.1) Kq120.1) Kq121.1) Kq133.1) Kq144.1) Kq155.1) Kq160.1)
                refine Go.void (pc' := 231) rfl ?_
                have f166 := (f159.keep Kq160 (ninS ne131 (ninS ne141 (ninS ne142 nin0))))
                have hA0 := hJ52
                rcases hA0 with hA | hA
                · have hA' := congrArg Int32.toInt hA
                  refine g_iload X160 hx hby at_231 (pc' := 233) rfl rfl ?_
                  have hc233 : av.toInt = (0 : Int) := hA'
                  refine g_ifYes X160 hx hby at_233 (pc' := 246) (teq (show av = (0 : Int32) from Int32.toInt_inj.mp hc233)).1 (by decide) (by decide) ?_
                  have ne167 : b5 ≠ b107 := Nat.ne_of_lt (by rw [hb107]; exact fj138_1.lt)
                  have ne168 : b5 ≠ b1_121 := Nat.ne_of_lt (Nat.lt_of_lt_of_le ((fj138_1.ext E107).keep Kq120 (ninS ne167 nin0)).lt sqb1_121)
                  have ne169 : b5 ≠ b2_121 := Nat.ne_of_lt (Nat.lt_of_lt_of_le ((fj138_1.ext E107).keep Kq120 (ninS ne167 nin0)).lt sqb2_121)
                  have f170 := f161.keep Kq160
                  have f171 := (f164.keep Kq160 (ninS (Ne.symm ne135) (ninS ne139 (ninS ne140 nin0))))
                  have ne172 : b5 ≠ b6_121 := Nat.ne_of_lt (Nat.lt_of_lt_of_le ((fj138_1.ext E107).keep Kq120 (ninS ne167 nin0)).lt sqb6_121)
                  have ne173 : b5 ≠ b5_121 := Nat.ne_of_lt (Nat.lt_of_lt_of_le ((fj138_1.ext E107).keep Kq120 (ninS ne167 nin0)).lt sqb5_121)
                  have f174 := (((((((fj138_1.ext E107).keep Kq120 (ninS ne167 nin0)).keep Kq121 (ninS ne167 nin0)).keep Kq133 (ninS ne167 (ninS ne168 (ninS ne169 nin0)))).keep Kq144 (ninS ne167 (ninS ne168 (ninS ne169 (ninS ne173 (ninS ne172 nin0)))))).keep Kq155 (ninS ne167 (ninS ne168 (ninS ne169 (ninS ne173 (ninS ne172 nin0)))))).keep Kq160 (ninS ne167 (ninS ne168 (ninS ne169 nin0))))
                  exact J246a0 (T160, _, h160, (1 : Int32), (0 : Int32), (2 : Int32), b107, b1_121, b2_121, b7_120) ⟨X160.more (by decide) (by decide), e160, N160, z165, f170, Fq0_160, Fq1_160, Fq2_160, Fq3_160, Fq4_160, Fq5_160, Fq11_160, Fq12_160, f171, f174, (show b1_121 ≠ b107 ∧ b2_121 ≠ b107 ∧ b1_121 ≠ b2_121 ∧ b7_120 ≠ b107 ∧ b7_120 ≠ b1_121 ∧ b7_120 ≠ b2_121 ∧ b5 ≠ b107 ∧ b5 ≠ b1_121 ∧ b5 ≠ b2_121 ∧ n0 ≤ b107 ∧ n0 ≤ b1_121 ∧ n0 ≤ b2_121 ∧ av = (0 : Int32) from ⟨(Ne.symm ne137), (Ne.symm ne138), nqb1_b2_121, (Ne.symm ne135), ne139, ne140, ne167, ne168, ne169, g108, gqb1_121, gqb2_121, hA⟩)⟩
                · have hA' := congrArg Int32.toInt hA
                  refine g_iload X160 hx hby at_231 (pc' := 233) rfl rfl ?_
                  have hc233 : ¬ (av.toInt = (0 : Int)) := by intro q; rw [hA'] at q; exact absurd q (by decide)
                  refine g_ifNo X160 hx hby at_233 (pc' := 236) (feq (show ¬ (av = (0 : Int32)) from fun q => hc233 (congrArg Int32.toInt q))).1 rfl ?_
                  refine g_aload X160 hx hby at_236 (pc' := 238) rfl rfl rfl ?_
                  refine g_iconst X160 hx hby at_238 (pc' := 239) rfl (z := (0 : Int32)) rfl ?_
                  refine g_iconst X160 hx hby at_239 (pc' := 240) rfl (z := (0 : Int32)) rfl ?_
                  refine Go.of (fun _ k => XS.dconst0 X160.here hx rfl (hb hby at_240) (v := FP.dconst0) rfl k) ?_
                  show Go p.tables e below s _ _ _ (T160.setTop (mkF m 241 #[.val (.int p1), .val (.int p2), .val (.int p3), .val (.int (1 : Int32)), .val (.int (0 : Int32)), .val (.int (0 : Int32)), .val (.int av), .val (.int ra), .val (.ref b1), .val (.ref b5), .val (.int nv), .val (.int v16), .val (.ref b107), .val (.int (0 : Int32)), .val (.int (2 : Int32))] [(.double FP.dconst0), (.int (0 : Int32)), (.int (0 : Int32)), (.ref b107)]))
                  refine g_iloadN X160 hx hby at_241 (pc' := 242) rfl rfl ?_
                  have f176 := f161.keep Kq160
                  have f177 := (Fq13_155.keep Kq160 (ninS (Ne.symm ne146) (ninS (Ne.symm nqb1_b5_121) (ninS (Ne.symm nqb2_b5_121) nin0))))
                  have f178 := (Fq14_155.keep Kq160 (ninS (Ne.symm ne148) (ninS (Ne.symm nqb1_b6_121) (ninS (Ne.symm nqb2_b6_121) nin0))))
                  refine Go.callV X160 hx hZ hown (wi hw 30 rfl) (wi hw 31 rfl) (notFace_of_selects (args := #[]) (mvT hZ (wi hw 33 rfl))) (wi hw 33 rfl) (wi hw 32 rfl) (wi hw 6 rfl) (wi hw 34 rfl) (by decide) e160 (a := b107) (argsL := [(.int (0 : Int32)), (.int (0 : Int32)), (.double FP.dconst0), (.int p3)]) (rest := []) (W := 0) f176 (rm_addB1 l Z a0 hw b107 (0 : Int32) (0 : Int32) FP.dconst0 p3 b1_121 b2_121 b3_121 b4_121 b5_121 b6_121 b7_120 (own_l [(0 : Int32), (0 : Int32), (0 : Int32), (0 : Int32)]) (own_l [(0 : Int32), (0 : Int32), (0 : Int32), (0 : Int32)]) (upD (upD (upD (fun _ => (0 : UInt64)) 0 FP.dconst0) 1 FP.dconst0) 2 FP.dconst0) (upI (upI (upI (fun _ => (0 : Int32)) 0 p3) 1 p3) 2 p3) (3 : Int32) (3 : Int32) (3 : Int64) 3 h160 n0 z165 f176 Fq6_160 Fq4_160 Fq0_160 Fq1_160 Fq7_160 Fq8_160 Fq9_160 Fq10_160 Fq11_160 Fq12_160 f177 f178 Fq2_160 Fq3_160 Fq5_160 (Ne.symm ne137) (Ne.symm ne138) (Ne.symm ne146) (Ne.symm ne148) nqb1_b2_121 nqb1_b5_121 nqb1_b6_121 nqb2_b5_121 nqb2_b6_121 nqb5_b6_121 g108 gqb1_121 gqb2_121 gqb5_121 gqb6_121 rfl (by decide)) (hb hby at_242) (by rw [hml]; rfl) rfl pd8 rfl rfl (by decide) (by decide) (by decide) (by decide) ?_
                  intro v175 T175 L175 X175 hQ175
                  obtain ⟨h175, e175⟩ : ∃ z, T175.heap = z := ⟨_, rfl⟩
                  rw [e175] at hQ175
                  obtain ⟨rfl, Nq175, Kq175, Fq0_175, Fq1_175, Fq2_175, Fq3_175, Fq4_175, Fq5_175, Fq6_175, Fq7_175, Fq8_175, Fq9_175, Fq10_175, Fq11_175, Fq12_175, Fq13_175, Fq14_175⟩ := hQ175
                  have N175 := Fr.app N160 Nq175
                  have Fq8_175 : Fld Z h175 b107 kES "bound" "I" (.int (4 : Int32)) := Fq8_175
                  have Fq9_175 : Fld Z h175 b107 kES "count" "I" (.int (4 : Int32)) := Fq9_175
                  have Fq10_175 : Fld Z h175 b107 kES "nextNumber" "J" (.long (4 : Int64)) := Fq10_175
                  refine Go.push (pc' := 245) rfl ?_
                  refine g_pop X175 hx hby at_245 (pc' := 246) rfl rfl ?_
                  have V179 : ArF Z h175 b1_121 .int 4 (fun i => .int ((own_l [(0 : Int32), (0 : Int32), (0 : Int32), (0 : Int32)]) i)) := Fq11_175.congr (fun i hi => congrArg Value.int ((by decide : ∀ i, i < 4 → (own_l [(0 : Int32), (0 : Int32), (0 : Int32), (0 : Int32)]) i = (upI (own_l [(0 : Int32), (0 : Int32), (0 : Int32), (0 : Int32)]) 3 (0 : Int32)) i) i hi))
                  have V180 : ArF Z h175 b2_121 .int 4 (fun i => .int ((own_l [(0 : Int32), (0 : Int32), (0 : Int32), (0 : Int32)]) i)) := Fq12_175.congr (fun i hi => congrArg Value.int ((by decide : ∀ i, i < 4 → (own_l [(0 : Int32), (0 : Int32), (0 : Int32), (0 : Int32)]) i = (upI (own_l [(0 : Int32), (0 : Int32), (0 : Int32), (0 : Int32)]) 3 (0 : Int32)) i) i hi))
                  have ne181 : b5 ≠ b107 := Nat.ne_of_lt (by rw [hb107]; exact fj138_1.lt)
                  have ne182 : b5 ≠ b1_121 := Nat.ne_of_lt (Nat.lt_of_lt_of_le ((fj138_1.ext E107).keep Kq120 (ninS ne181 nin0)).lt sqb1_121)
                  have ne183 : b5 ≠ b2_121 := Nat.ne_of_lt (Nat.lt_of_lt_of_le ((fj138_1.ext E107).keep Kq120 (ninS ne181 nin0)).lt sqb2_121)
                  have f184 := f176.keep Kq175
                  have f185 := ((f164.keep Kq160 (ninS (Ne.symm ne135) (ninS ne139 (ninS ne140 nin0)))).keep Kq175 (ninS (Ne.symm ne135) (ninS ne139 (ninS ne140 (ninS ne163 (ninS ne162 nin0))))))
                  have ne186 : b5 ≠ b6_121 := Nat.ne_of_lt (Nat.lt_of_lt_of_le ((fj138_1.ext E107).keep Kq120 (ninS ne181 nin0)).lt sqb6_121)
                  have ne187 : b5 ≠ b5_121 := Nat.ne_of_lt (Nat.lt_of_lt_of_le ((fj138_1.ext E107).keep Kq120 (ninS ne181 nin0)).lt sqb5_121)
                  have f188 := ((((((((fj138_1.ext E107).keep Kq120 (ninS ne181 nin0)).keep Kq121 (ninS ne181 nin0)).keep Kq133 (ninS ne181 (ninS ne182 (ninS ne183 nin0)))).keep Kq144 (ninS ne181 (ninS ne182 (ninS ne183 (ninS ne187 (ninS ne186 nin0)))))).keep Kq155 (ninS ne181 (ninS ne182 (ninS ne183 (ninS ne187 (ninS ne186 nin0)))))).keep Kq160 (ninS ne181 (ninS ne182 (ninS ne183 nin0)))).keep Kq175 (ninS ne181 (ninS ne182 (ninS ne183 (ninS ne187 (ninS ne186 nin0))))))
                  exact J246a1 (T175, _, h175, (1 : Int32), (0 : Int32), (2 : Int32), b107, b1_121, b2_121, b7_120) ⟨X175.more (by decide) (by decide), e175, N175, (Nat.le_trans z165 Kq175.1), f184, Fq2_175, Fq3_175, Fq8_175, Fq9_175, Fq1_175, Fq10_175, V179, V180, f185, f188, (show b1_121 ≠ b107 ∧ b2_121 ≠ b107 ∧ b1_121 ≠ b2_121 ∧ b7_120 ≠ b107 ∧ b7_120 ≠ b1_121 ∧ b7_120 ≠ b2_121 ∧ b5 ≠ b107 ∧ b5 ≠ b1_121 ∧ b5 ≠ b2_121 ∧ n0 ≤ b107 ∧ n0 ≤ b1_121 ∧ n0 ≤ b2_121 ∧ av = (1 : Int32) from ⟨(Ne.symm ne137), (Ne.symm ne138), nqb1_b2_121, (Ne.symm ne135), ne139, ne140, ne181, ne182, ne183, g108, gqb1_121, gqb2_121, hA⟩)⟩
            intro J138
            refine g_iload X11 hx hby at_122 (pc' := 124) rfl rfl ?_
            by_cases hc124 : av.toInt = (0 : Int)
            · refine g_ifYes X11 hx hby at_124 (pc' := 138) (teq (show av = (0 : Int32) from Int32.toInt_inj.mp hc124)).1 (by decide) (by decide) ?_
              exact J138 (T11, _, h11, (3 : Int32), (own_lj [(0 : Int64), (1 : Int64), (2 : Int64), (0 : Int64)])) ⟨X11.more (by decide) (by decide), e11, (Fr.snoc X11 (Fr.snoc X9 (Fr.snoc X8 (Fr.snoc X4 N0 g2) g6) g6) g6), (Nat.le_trans z10 (Nat.le_of_eq (Wr.size W11).symm)), V15, V12, (show (av = (0 : Int32) ∧ (3 : Int32) = (3 : Int32) ∧ (own_lj [(0 : Int64), (1 : Int64), (2 : Int64), (0 : Int64)]) = (own_lj [(0 : Int64), (1 : Int64), (2 : Int64), (0 : Int64)])) ∨ (av = (1 : Int32) ∧ (3 : Int32) = (4 : Int32) ∧ (own_lj [(0 : Int64), (1 : Int64), (2 : Int64), (0 : Int64)]) = (own_lj [(0 : Int64), (1 : Int64), (2 : Int64), (3 : Int64)])) from Or.inl ⟨Int32.toInt_inj.mp hc124, rfl, rfl⟩)⟩
            · refine g_ifNo X11 hx hby at_124 (pc' := 127) (feq (show ¬ (av = (0 : Int32)) from fun q => hc124 (congrArg Int32.toInt q))).1 rfl ?_
              refine g_aload X11 hx hby at_127 (pc' := 129) rfl rfl rfl ?_
              refine g_iload X11 hx hby at_129 (pc' := 131) rfl rfl ?_
              refine g_ldcL X11 hx hby hZ hown (wi hw 96 rfl) at_131 (pc' := 134) rfl ?_
              refine Go.lastore X11 hx hZ e11 V12 (k := 3) rfl (by decide) (hb hby at_134) (pc' := 135) rfl ?_
              intro T189 h189 X189 e189 W189 V189
              refine g_iinc X189 hx hby at_135 (pc' := 138) rfl rfl (L' := #[.val (.int p1), .val (.int p2), .val (.int p3), .val (.int kd), .val (.int (0 : Int32)), .val (.int (0 : Int32)), .val (.int av), .val (.int ra), .val (.ref b1), .val (.ref b5), .val (.int (4 : Int32)), .unset, .unset, .unset, .unset]) rfl ?_
              have V190 : ArF Z h189 b5 .long 4 (fun i => .long ((own_lj [(0 : Int64), (1 : Int64), (2 : Int64), (3 : Int64)]) i)) := V189.congr (fun i hi => congrArg Value.long ((by decide : ∀ i, i < 4 → (own_lj [(0 : Int64), (1 : Int64), (2 : Int64), (3 : Int64)]) i = (upJ (own_lj [(0 : Int64), (1 : Int64), (2 : Int64), (0 : Int64)]) 3 (3 : Int64)) i) i hi))
              have f191 := V15.other W189 ne13
              exact J138 (T189, _, h189, (4 : Int32), (own_lj [(0 : Int64), (1 : Int64), (2 : Int64), (3 : Int64)])) ⟨X189.more (by decide) (by decide), e189, (Fr.snoc X189 (Fr.snoc X11 (Fr.snoc X9 (Fr.snoc X8 (Fr.snoc X4 N0 g2) g6) g6) g6) g6), (Nat.le_trans (Nat.le_trans z10 (Nat.le_of_eq (Wr.size W11).symm)) (Nat.le_of_eq (Wr.size W189).symm)), f191, V190, (show (av = (0 : Int32) ∧ (4 : Int32) = (3 : Int32) ∧ (own_lj [(0 : Int64), (1 : Int64), (2 : Int64), (3 : Int64)]) = (own_lj [(0 : Int64), (1 : Int64), (2 : Int64), (0 : Int64)])) ∨ (av = (1 : Int32) ∧ (4 : Int32) = (4 : Int32) ∧ (own_lj [(0 : Int64), (1 : Int64), (2 : Int64), (3 : Int64)]) = (own_lj [(0 : Int64), (1 : Int64), (2 : Int64), (3 : Int64)])) from Or.inr ⟨hJ52.resolve_left (fun q => hc124 (congrArg Int32.toInt q)), rfl, rfl⟩)⟩
          intro J66
          refine g_iloadN X0 hx hby at_52 (pc' := 53) rfl rfl ?_
          refine g_bipush X0 hx hby at_53 (pc' := 55) rfl (z := (16 : Int32)) rfl ?_
          refine g_iand X0 hx hby at_55 (pc' := 56) rfl rfl ?_
          by_cases hc56 : (p1 &&& (16 : Int32)).toInt = (0 : Int)
          · refine g_ifYes X0 hx hby at_56 (pc' := 63) (teq (show (p1 &&& (16 : Int32)) = (0 : Int32) from Int32.toInt_inj.mp hc56)).1 (by decide) (by decide) ?_
            refine g_iconst X0 hx hby at_63 (pc' := 64) rfl (z := (0 : Int32)) rfl ?_
            refine g_istore X0 hx hby at_64 (pc' := 66) rfl (L' := #[.val (.int p1), .val (.int p2), .val (.int p3), .val (.int kd), .val (.int (0 : Int32)), .val (.int (0 : Int32)), .val (.int av), .val (.int (0 : Int32)), .unset, .unset, .unset, .unset, .unset, .unset, .unset]) rfl ?_
            exact J66 ((0 : Int32)) (Or.inl rfl)
          · refine g_ifNo X0 hx hby at_56 (pc' := 59) (feq (show ¬ ((p1 &&& (16 : Int32)) = (0 : Int32)) from fun q => hc56 (congrArg Int32.toInt q))).1 rfl ?_
            refine g_iconst X0 hx hby at_59 (pc' := 60) rfl (z := (1 : Int32)) rfl ?_
            refine g_goto X0 hx hby at_60 (pc' := 64) (by decide) (by decide) ?_
            refine g_istore X0 hx hby at_64 (pc' := 66) rfl (L' := #[.val (.int p1), .val (.int p2), .val (.int p3), .val (.int kd), .val (.int (0 : Int32)), .val (.int (0 : Int32)), .val (.int av), .val (.int (1 : Int32)), .unset, .unset, .unset, .unset, .unset, .unset, .unset]) rfl ?_
            exact J66 ((1 : Int32)) (Or.inr rfl)
        intro J52
        refine g_iloadN X0 hx hby at_38 (pc' := 39) rfl rfl ?_
        refine g_bipush X0 hx hby at_39 (pc' := 41) rfl (z := (8 : Int32)) rfl ?_
        refine g_iand X0 hx hby at_41 (pc' := 42) rfl rfl ?_
        by_cases hc42 : (p1 &&& (8 : Int32)).toInt = (0 : Int)
        · refine g_ifYes X0 hx hby at_42 (pc' := 49) (teq (show (p1 &&& (8 : Int32)) = (0 : Int32) from Int32.toInt_inj.mp hc42)).1 (by decide) (by decide) ?_
          refine g_iconst X0 hx hby at_49 (pc' := 50) rfl (z := (0 : Int32)) rfl ?_
          refine g_istore X0 hx hby at_50 (pc' := 52) rfl (L' := #[.val (.int p1), .val (.int p2), .val (.int p3), .val (.int kd), .val (.int (0 : Int32)), .val (.int (0 : Int32)), .val (.int (0 : Int32)), .unset, .unset, .unset, .unset, .unset, .unset, .unset, .unset]) rfl ?_
          exact J52 ((0 : Int32)) (Or.inl rfl)
        · refine g_ifNo X0 hx hby at_42 (pc' := 45) (feq (show ¬ ((p1 &&& (8 : Int32)) = (0 : Int32)) from fun q => hc42 (congrArg Int32.toInt q))).1 rfl ?_
          refine g_iconst X0 hx hby at_45 (pc' := 46) rfl (z := (1 : Int32)) rfl ?_
          refine g_goto X0 hx hby at_46 (pc' := 50) (by decide) (by decide) ?_
          refine g_istore X0 hx hby at_50 (pc' := 52) rfl (L' := #[.val (.int p1), .val (.int p2), .val (.int p3), .val (.int kd), .val (.int (0 : Int32)), .val (.int (0 : Int32)), .val (.int (1 : Int32)), .unset, .unset, .unset, .unset, .unset, .unset, .unset, .unset]) rfl ?_
          exact J52 ((1 : Int32)) (Or.inr rfl)
      · refine g_ifNo X0 hx hby at_28 (pc' := 31) (feq (show ¬ ((p1 &&& (4 : Int32)) = (0 : Int32)) from fun q => hc28 (congrArg Int32.toInt q))).1 rfl ?_
        refine g_iconst X0 hx hby at_31 (pc' := 32) rfl (z := (1 : Int32)) rfl ?_
        refine g_goto X0 hx hby at_32 (pc' := 36) (by decide) (by decide) ?_
        refine g_istore X0 hx hby at_36 (pc' := 38) rfl (L' := #[.val (.int p1), .val (.int p2), .val (.int p3), .val (.int kd), .val (.int (0 : Int32)), .val (.int (1 : Int32)), .unset, .unset, .unset, .unset, .unset, .unset, .unset, .unset, .unset]) rfl ?_
        refine Go.join (α := Int32) (P := fun x => (fun (av : Int32) => av = (0 : Int32) ∨ av = (1 : Int32)) x) (F := fun x => (fun (av : Int32) => T0.setTop (mkF m 52 #[.val (.int p1), .val (.int p2), .val (.int p3), .val (.int kd), .val (.int (0 : Int32)), .val (.int (1 : Int32)), .val (.int av), .unset, .unset, .unset, .unset, .unset, .unset, .unset, .unset] [])) x) ?_ ?_
        · rintro av hJ52
          show Go p.tables e below s _ _ _ (T0.setTop (mkF m 52 #[.val (.int p1), .val (.int p2), .val (.int p3), .val (.int kd), .val (.int (0 : Int32)), .val (.int (1 : Int32)), .val (.int av), .unset, .unset, .unset, .unset, .unset, .unset, .unset, .unset] []))
          refine Go.join (α := Int32) (P := fun x => (fun (ra : Int32) => ra = (0 : Int32) ∨ ra = (1 : Int32)) x) (F := fun x => (fun (ra : Int32) => T0.setTop (mkF m 66 #[.val (.int p1), .val (.int p2), .val (.int p3), .val (.int kd), .val (.int (0 : Int32)), .val (.int (1 : Int32)), .val (.int av), .val (.int ra), .unset, .unset, .unset, .unset, .unset, .unset, .unset] [])) x) ?_ ?_
          · rintro ra hJ66
            show Go p.tables e below s _ _ _ (T0.setTop (mkF m 66 #[.val (.int p1), .val (.int p2), .val (.int p3), .val (.int kd), .val (.int (0 : Int32)), .val (.int (1 : Int32)), .val (.int av), .val (.int ra), .unset, .unset, .unset, .unset, .unset, .unset, .unset] []))
            refine g_iconst X0 hx hby at_66 (pc' := 67) rfl (z := (1 : Int32)) rfl ?_
            refine Go.newarr X0 hx hZ (n := 1) (cap := 1) (ty := .int) rfl (wi hw 0 rfl) e0 (by decide) rfl (by decide) (by decide) (by decide) (by decide) (hb hby at_67) (pc' := 69) rfl ?_
            intro T192 h192 b192 X192 e192 E192 hb192 V192
            have g193 : n0 ≤ b192 := by rw [hb192]; exact Z0
            have V194 : ArF Z h192 b192 .int 1 (fun i => .int ((fun _ => (0 : Int32)) i)) := V192
            refine g_dup X192 hx hby at_69 (pc' := 70) rfl rfl ?_
            refine g_iconst X192 hx hby at_70 (pc' := 71) rfl (z := (0 : Int32)) rfl ?_
            refine g_iconst X192 hx hby at_71 (pc' := 72) rfl (z := (0 : Int32)) rfl ?_
            refine Go.iastore X192 hx hZ e192 V194 (k := 0) rfl (by decide) (hb hby at_72) (pc' := 73) rfl ?_
            intro T195 h195 X195 e195 W195 V195
            refine g_astore X195 hx hby at_73 (pc' := 75) rfl rfl (L' := #[.val (.int p1), .val (.int p2), .val (.int p3), .val (.int kd), .val (.int (0 : Int32)), .val (.int (1 : Int32)), .val (.int av), .val (.int ra), .val (.ref b192), .unset, .unset, .unset, .unset, .unset, .unset]) rfl ?_
            refine g_iconst X195 hx hby at_75 (pc' := 76) rfl (z := (4 : Int32)) rfl ?_
            refine Go.newarr X195 hx hZ (n := 4) (cap := 4) (ty := .long) rfl (wi hw 1 rfl) e195 (by decide) rfl (by decide) (by decide) (by decide) (by decide) (hb hby at_76) (pc' := 78) rfl ?_
            intro T196 h196 b196 X196 e196 E196 hb196 V196
            have g197 : n0 ≤ b196 := by rw [hb196]; exact (Nat.le_trans (Nat.le_trans Z0 E192.1) (Nat.le_of_eq (Wr.size W195).symm))
            have V198 : ArF Z h196 b196 .long 4 (fun i => .long ((fun _ => (0 : Int64)) i)) := V196
            refine g_astore X196 hx hby at_78 (pc' := 80) rfl rfl (L' := #[.val (.int p1), .val (.int p2), .val (.int p3), .val (.int kd), .val (.int (0 : Int32)), .val (.int (1 : Int32)), .val (.int av), .val (.int ra), .val (.ref b192), .val (.ref b196), .unset, .unset, .unset, .unset, .unset]) rfl ?_
            refine g_iconst X196 hx hby at_80 (pc' := 81) rfl (z := (0 : Int32)) rfl ?_
            refine g_istore X196 hx hby at_81 (pc' := 83) rfl (L' := #[.val (.int p1), .val (.int p2), .val (.int p3), .val (.int kd), .val (.int (0 : Int32)), .val (.int (1 : Int32)), .val (.int av), .val (.int ra), .val (.ref b192), .val (.ref b196), .val (.int (0 : Int32)), .unset, .unset, .unset, .unset]) rfl ?_
            refine g_iload X196 hx hby at_83 (pc' := 85) rfl rfl ?_
            have hc85 : (0 : Int) = (0 : Int) := by decide
            refine g_ifNo X196 hx hby at_85 (pc' := 88) (teq (show (0 : Int32) = (0 : Int32) from Int32.toInt_inj.mp hc85)).2 rfl ?_
            refine g_aload X196 hx hby at_88 (pc' := 90) rfl rfl rfl ?_
            refine g_iload X196 hx hby at_90 (pc' := 92) rfl rfl ?_
            refine Go.of (fun _ k => XS.lconst X196.here hx rfl (hb hby at_92) k) ?_
            show Go p.tables e below s _ _ _ (T196.setTop (mkF m 93 #[.val (.int p1), .val (.int p2), .val (.int p3), .val (.int kd), .val (.int (0 : Int32)), .val (.int (1 : Int32)), .val (.int av), .val (.int ra), .val (.ref b192), .val (.ref b196), .val (.int (0 : Int32)), .unset, .unset, .unset, .unset] [(.long (0 : Int64)), (.int (0 : Int32)), (.ref b196)]))
            refine Go.lastore X196 hx hZ e196 V198 (k := 0) rfl (by decide) (hb hby at_93) (pc' := 94) rfl ?_
            intro T199 h199 X199 e199 W199 V199
            refine g_iinc X199 hx hby at_94 (pc' := 97) rfl rfl (L' := #[.val (.int p1), .val (.int p2), .val (.int p3), .val (.int kd), .val (.int (0 : Int32)), .val (.int (1 : Int32)), .val (.int av), .val (.int ra), .val (.ref b192), .val (.ref b196), .val (.int (1 : Int32)), .unset, .unset, .unset, .unset]) rfl ?_
            refine g_aload X199 hx hby at_97 (pc' := 99) rfl rfl rfl ?_
            refine g_iload X199 hx hby at_99 (pc' := 101) rfl rfl ?_
            refine Go.of (fun _ k => XS.lconst X199.here hx rfl (hb hby at_101) k) ?_
            show Go p.tables e below s _ _ _ (T199.setTop (mkF m 102 #[.val (.int p1), .val (.int p2), .val (.int p3), .val (.int kd), .val (.int (0 : Int32)), .val (.int (1 : Int32)), .val (.int av), .val (.int ra), .val (.ref b192), .val (.ref b196), .val (.int (1 : Int32)), .unset, .unset, .unset, .unset] [(.long (1 : Int64)), (.int (1 : Int32)), (.ref b196)]))
            refine Go.lastore X199 hx hZ e199 V199 (k := 1) rfl (by decide) (hb hby at_102) (pc' := 103) rfl ?_
            intro T200 h200 X200 e200 W200 V200
            have z201 : n0 ≤ h200.size := (Nat.le_trans (Nat.le_trans (Nat.le_trans (Nat.le_trans (Nat.le_trans Z0 E192.1) (Nat.le_of_eq (Wr.size W195).symm)) E196.1) (Nat.le_of_eq (Wr.size W199).symm)) (Nat.le_of_eq (Wr.size W200).symm))
            refine g_iinc X200 hx hby at_103 (pc' := 106) rfl rfl (L' := #[.val (.int p1), .val (.int p2), .val (.int p3), .val (.int kd), .val (.int (0 : Int32)), .val (.int (1 : Int32)), .val (.int av), .val (.int ra), .val (.ref b192), .val (.ref b196), .val (.int (2 : Int32)), .unset, .unset, .unset, .unset]) rfl ?_
            refine g_iload X200 hx hby at_106 (pc' := 108) rfl rfl ?_
            have hc108 : ¬ ((1 : Int) = (0 : Int)) := by decide
            refine g_ifYes X200 hx hby at_108 (pc' := 122) (feq (show ¬ ((1 : Int32) = (0 : Int32)) from fun q => hc108 (congrArg Int32.toInt q))).2 (by decide) (by decide) ?_
            have V202 : ArF Z h200 b196 .long 4 (fun i => .long ((own_lj [(0 : Int64), (1 : Int64), (0 : Int64), (0 : Int64)]) i)) := V200.congr (fun i hi => congrArg Value.long ((by decide : ∀ i, i < 4 → (own_lj [(0 : Int64), (1 : Int64), (0 : Int64), (0 : Int64)]) i = (upJ (upJ (fun _ => (0 : Int64)) 0 (0 : Int64)) 1 (1 : Int64)) i) i hi))
            have ne203 : b192 ≠ b196 := Nat.ne_of_lt (by rw [hb196]; exact V195.lt)
            have f204 := (((V195.ext E196).other W199 ne203).other W200 ne203)
            have V205 : ArF Z h200 b192 .int 1 (fun i => .int ((own_l [(0 : Int32)]) i)) := f204.congr (fun i hi => congrArg Value.int ((by decide : ∀ i, i < 1 → (own_l [(0 : Int32)]) i = (upI (fun _ => (0 : Int32)) 0 (0 : Int32)) i) i hi))
            refine Go.join (α := State × (List Loc) × Heap × Int32 × (Nat → Int64)) (P := fun x => (fun (Tj138 : State) (Lj138 : List Loc) (hj138 : Heap) (nv : Int32) (gE : Nat → Int64) => Stand p l e room_1 s m #[(.int p1), (.int p2), (.int p3)] below meth c Tj138 Lj138 2 5 ∧ Tj138.heap = hj138 ∧ Fr n0 Lj138 ∧ n0 ≤ hj138.size ∧ ArF Z hj138 b192 .int 1 (fun i => .int ((own_l [(0 : Int32)]) i)) ∧ ArF Z hj138 b196 .long 4 (fun i => .long (gE i)) ∧ ((av = (0 : Int32) ∧ nv = (2 : Int32) ∧ gE = (own_lj [(0 : Int64), (1 : Int64), (0 : Int64), (0 : Int64)])) ∨ (av = (1 : Int32) ∧ nv = (3 : Int32) ∧ gE = (own_lj [(0 : Int64), (1 : Int64), (3 : Int64), (0 : Int64)])))) x.1 x.2.1 x.2.2.1 x.2.2.2.1 x.2.2.2.2) (F := fun x => (fun (Tj138 : State) (Lj138 : List Loc) (hj138 : Heap) (nv : Int32) (gE : Nat → Int64) => Tj138.setTop (mkF m 138 #[.val (.int p1), .val (.int p2), .val (.int p3), .val (.int kd), .val (.int (0 : Int32)), .val (.int (1 : Int32)), .val (.int av), .val (.int ra), .val (.ref b192), .val (.ref b196), .val (.int nv), .unset, .unset, .unset, .unset] [])) x.1 x.2.1 x.2.2.1 x.2.2.2.1 x.2.2.2.2) ?_ ?_
            · rintro ⟨Tj138, Lj138, hj138, nv, gE⟩ hP138
              obtain ⟨Xj138, ej138, Nj138, zj138, fj138_0, fj138_1, hJ138⟩ : Stand p l e room_1 s m #[(.int p1), (.int p2), (.int p3)] below meth c Tj138 Lj138 2 5 ∧ Tj138.heap = hj138 ∧ Fr n0 Lj138 ∧ n0 ≤ hj138.size ∧ ArF Z hj138 b192 .int 1 (fun i => .int ((own_l [(0 : Int32)]) i)) ∧ ArF Z hj138 b196 .long 4 (fun i => .long (gE i)) ∧ ((av = (0 : Int32) ∧ nv = (2 : Int32) ∧ gE = (own_lj [(0 : Int64), (1 : Int64), (0 : Int64), (0 : Int64)])) ∨ (av = (1 : Int32) ∧ nv = (3 : Int32) ∧ gE = (own_lj [(0 : Int64), (1 : Int64), (3 : Int64), (0 : Int64)]))) := hP138
              show Go p.tables e below s _ _ _ (Tj138.setTop (mkF m 138 #[.val (.int p1), .val (.int p2), .val (.int p3), .val (.int kd), .val (.int (0 : Int32)), .val (.int (1 : Int32)), .val (.int av), .val (.int ra), .val (.ref b192), .val (.ref b196), .val (.int nv), .unset, .unset, .unset, .unset] []))
              refine g_iloadN Xj138 hx hby at_138 (pc' := 139) rfl rfl ?_
              refine g_ldcI Xj138 hx hby hZ hown (wi hw 3 rfl) at_139 (pc' := 141) rfl ?_
              refine g_iand Xj138 hx hby at_141 (pc' := 142) rfl rfl ?_
              refine g_iload Xj138 hx hby at_142 (pc' := 144) rfl rfl ?_
              refine g_irem Xj138 hx hby at_144 (pc' := 145) rfl (by rcases hJ138 with ⟨_, rfl, _⟩ | ⟨_, rfl, _⟩ <;> decide) rfl ?_
              generalize hv206 : ((p2 &&& (2147483647 : Int32)) % nv) = v206
              refine g_istore Xj138 hx hby at_145 (pc' := 147) rfl (L' := #[.val (.int p1), .val (.int p2), .val (.int p3), .val (.int kd), .val (.int (0 : Int32)), .val (.int (1 : Int32)), .val (.int av), .val (.int ra), .val (.ref b192), .val (.ref b196), .val (.int nv), .val (.int v206), .unset, .unset, .unset]) rfl ?_
              refine Go.join (α := State × (List Loc) × Heap × Int32 × Int32 × Int32 × Addr × Addr × Addr × Addr) (P := fun x => (fun (Tj246a0 : State) (Lj246a0 : List Loc) (hj246a0 : Heap) (k3 : Int32) (r13 : Int32) (r14 : Int32) (oa : Addr) (xa : Addr) (xb : Addr) (xk : Addr) => Stand p l e room_1 s m #[(.int p1), (.int p2), (.int p3)] below meth c Tj246a0 Lj246a0 22 80 ∧ Tj246a0.heap = hj246a0 ∧ Fr n0 Lj246a0 ∧ n0 ≤ hj246a0.size ∧ Exa Z hj246a0 oa kES ∧ Fld Z hj246a0 oa kES "sources" "[I" (.ref xa) ∧ Fld Z hj246a0 oa kES "targets" "[I" (.ref xb) ∧ Fld Z hj246a0 oa kES "bound" "I" (.int (2 : Int32)) ∧ Fld Z hj246a0 oa kES "count" "I" (.int (2 : Int32)) ∧ Fld Z hj246a0 oa kES "keptNumbers" "[J" (.ref xk) ∧ Fld Z hj246a0 oa kES "nextNumber" "J" (.long (3 : Int64)) ∧ ArF Z hj246a0 xa .int 4 (fun i => .int ((own_l [(0 : Int32), (0 : Int32), (-1 : Int32), (0 : Int32)]) i)) ∧ ArF Z hj246a0 xb .int 4 (fun i => .int ((own_l [(0 : Int32), (0 : Int32), (-1 : Int32), (0 : Int32)]) i)) ∧ ArF Z hj246a0 xk .long 2 (fun i => .long ((own_lj [(0 : Int64), (1 : Int64)]) i)) ∧ ArF Z hj246a0 b196 .long 4 (fun i => .long (gE i)) ∧ (xa ≠ oa ∧ xb ≠ oa ∧ xa ≠ xb ∧ xk ≠ oa ∧ xk ≠ xa ∧ xk ≠ xb ∧ b196 ≠ oa ∧ b196 ≠ xa ∧ b196 ≠ xb ∧ n0 ≤ oa ∧ n0 ≤ xa ∧ n0 ≤ xb ∧ av = (0 : Int32))) x.1 x.2.1 x.2.2.1 x.2.2.2.1 x.2.2.2.2.1 x.2.2.2.2.2.1 x.2.2.2.2.2.2.1 x.2.2.2.2.2.2.2.1 x.2.2.2.2.2.2.2.2.1 x.2.2.2.2.2.2.2.2.2) (F := fun x => (fun (Tj246a0 : State) (Lj246a0 : List Loc) (hj246a0 : Heap) (k3 : Int32) (r13 : Int32) (r14 : Int32) (oa : Addr) (xa : Addr) (xb : Addr) (xk : Addr) => Tj246a0.setTop (mkF m 246 #[.val (.int p1), .val (.int p2), .val (.int p3), .val (.int k3), .val (.int (0 : Int32)), .val (.int (1 : Int32)), .val (.int av), .val (.int ra), .val (.ref b192), .val (.ref b196), .val (.int nv), .val (.int v206), .val (.ref oa), .val (.int r13), .val (.int r14)] [])) x.1 x.2.1 x.2.2.1 x.2.2.2.1 x.2.2.2.2.1 x.2.2.2.2.2.1 x.2.2.2.2.2.2.1 x.2.2.2.2.2.2.2.1 x.2.2.2.2.2.2.2.2.1 x.2.2.2.2.2.2.2.2.2) ?_ ?_
              · rintro ⟨Tj246a0, Lj246a0, hj246a0, k3, r13, r14, oa, xa, xb, xk⟩ hP246a0
                obtain ⟨Xj246a0, ej246a0, Nj246a0, zj246a0, fj246a0_0, fj246a0_1, fj246a0_2, fj246a0_3, fj246a0_4, fj246a0_5, fj246a0_6, fj246a0_7, fj246a0_8, fj246a0_9, fj246a0_10, hJ246a0⟩ : Stand p l e room_1 s m #[(.int p1), (.int p2), (.int p3)] below meth c Tj246a0 Lj246a0 22 80 ∧ Tj246a0.heap = hj246a0 ∧ Fr n0 Lj246a0 ∧ n0 ≤ hj246a0.size ∧ Exa Z hj246a0 oa kES ∧ Fld Z hj246a0 oa kES "sources" "[I" (.ref xa) ∧ Fld Z hj246a0 oa kES "targets" "[I" (.ref xb) ∧ Fld Z hj246a0 oa kES "bound" "I" (.int (2 : Int32)) ∧ Fld Z hj246a0 oa kES "count" "I" (.int (2 : Int32)) ∧ Fld Z hj246a0 oa kES "keptNumbers" "[J" (.ref xk) ∧ Fld Z hj246a0 oa kES "nextNumber" "J" (.long (3 : Int64)) ∧ ArF Z hj246a0 xa .int 4 (fun i => .int ((own_l [(0 : Int32), (0 : Int32), (-1 : Int32), (0 : Int32)]) i)) ∧ ArF Z hj246a0 xb .int 4 (fun i => .int ((own_l [(0 : Int32), (0 : Int32), (-1 : Int32), (0 : Int32)]) i)) ∧ ArF Z hj246a0 xk .long 2 (fun i => .long ((own_lj [(0 : Int64), (1 : Int64)]) i)) ∧ ArF Z hj246a0 b196 .long 4 (fun i => .long (gE i)) ∧ (xa ≠ oa ∧ xb ≠ oa ∧ xa ≠ xb ∧ xk ≠ oa ∧ xk ≠ xa ∧ xk ≠ xb ∧ b196 ≠ oa ∧ b196 ≠ xa ∧ b196 ≠ xb ∧ n0 ≤ oa ∧ n0 ≤ xa ∧ n0 ≤ xb ∧ av = (0 : Int32)) := hP246a0
                show Go p.tables e below s _ _ _ (Tj246a0.setTop (mkF m 246 #[.val (.int p1), .val (.int p2), .val (.int p3), .val (.int k3), .val (.int (0 : Int32)), .val (.int (1 : Int32)), .val (.int av), .val (.int ra), .val (.ref b192), .val (.ref b196), .val (.int nv), .val (.int v206), .val (.ref oa), .val (.int r13), .val (.int r14)] []))
                obtain ⟨nn0, nn1, nn2, nn3, nn4, nn5, nn6, nn7, nn8, gg0, gg1, gg2, hav⟩ := hJ246a0
                have hnv : nv = (2 : Int32) ∧ gE = (own_lj [(0 : Int64), (1 : Int64), (0 : Int64), (0 : Int64)]) := by
                  rcases hJ138 with ⟨hA, h1, h2⟩ | ⟨hA, h1, h2⟩
                  · exact ⟨h1, h2⟩
                  · rw [hav] at hA; exact absurd hA (by decide)
                obtain ⟨rfl, rfl⟩ := hnv
                refine Go.join (α := State × (List Loc) × Heap × Unit) (P := fun x => (fun (Tj257 : State) (Lj257 : List Loc) (hj257 : Heap) (uu : Unit) => Stand p l e room_1 s m #[(.int p1), (.int p2), (.int p3)] below meth c Tj257 Lj257 22 80 ∧ Tj257.heap = hj257 ∧ Fr n0 Lj257 ∧ n0 ≤ hj257.size ∧ Exa Z hj257 oa kES ∧ Fld Z hj257 oa kES "bound" "I" (.int (2 : Int32)) ∧ Fld Z hj257 oa kES "keptNumbers" "[J" (.ref xk) ∧ Fld Z hj257 oa kES "nextNumber" "J" (.long (3 : Int64)) ∧ ArF Z hj257 xk .long 2 (fun i => .long ((own_lj [(0 : Int64), (1 : Int64)]) i)) ∧ ArF Z hj257 b196 .long 4 (fun i => .long ((own_lj [(0 : Int64), (1 : Int64), (0 : Int64), (0 : Int64)]) i)) ∧ (True)) x.1 x.2.1 x.2.2.1 x.2.2.2) (F := fun x => (fun (Tj257 : State) (Lj257 : List Loc) (hj257 : Heap) (uu : Unit) => Tj257.setTop (mkF m 257 #[.val (.int p1), .val (.int p2), .val (.int p3), .val (.int k3), .val (.int (0 : Int32)), .val (.int (1 : Int32)), .val (.int av), .val (.int ra), .val (.ref b192), .val (.ref b196), .val (.int (2 : Int32)), .val (.int v206), .val (.ref oa), .val (.int r13), .val (.int r14)] [])) x.1 x.2.1 x.2.2.1 x.2.2.2) ?_ ?_
                · rintro ⟨Tj257, Lj257, hj257, uu⟩ hP257
                  obtain ⟨Xj257, ej257, Nj257, zj257, fj257_0, fj257_1, fj257_2, fj257_3, fj257_4, fj257_5, hJ257⟩ : Stand p l e room_1 s m #[(.int p1), (.int p2), (.int p3)] below meth c Tj257 Lj257 22 80 ∧ Tj257.heap = hj257 ∧ Fr n0 Lj257 ∧ n0 ≤ hj257.size ∧ Exa Z hj257 oa kES ∧ Fld Z hj257 oa kES "bound" "I" (.int (2 : Int32)) ∧ Fld Z hj257 oa kES "keptNumbers" "[J" (.ref xk) ∧ Fld Z hj257 oa kES "nextNumber" "J" (.long (3 : Int64)) ∧ ArF Z hj257 xk .long 2 (fun i => .long ((own_lj [(0 : Int64), (1 : Int64)]) i)) ∧ ArF Z hj257 b196 .long 4 (fun i => .long ((own_lj [(0 : Int64), (1 : Int64), (0 : Int64), (0 : Int64)]) i)) ∧ (True) := hP257
                  show Go p.tables e below s _ _ _ (Tj257.setTop (mkF m 257 #[.val (.int p1), .val (.int p2), .val (.int p3), .val (.int k3), .val (.int (0 : Int32)), .val (.int (1 : Int32)), .val (.int av), .val (.int ra), .val (.ref b192), .val (.ref b196), .val (.int (2 : Int32)), .val (.int v206), .val (.ref oa), .val (.int r13), .val (.int r14)] []))
                  have hv : v206 = (0 : Int32) ∨ v206 = (1 : Int32) := by
                    have : v206.toInt = 0 ∨ v206.toInt = 1 := by rw [← hv206]; have : (0 ≤ (p2 &&& (2147483647 : Int32)).toInt → ((p2 &&& (2147483647 : Int32)) % (2 : Int32)).toInt = (p2 &&& (2147483647 : Int32)).toInt % 2) ∧ ((p2 &&& (2147483647 : Int32)).toInt < 0 → ((p2 &&& (2147483647 : Int32)) % (2 : Int32)).toInt = -((-(p2 &&& (2147483647 : Int32)).toInt) % 2)) := c_irem _ _ 2 rfl; have : -2147483648 ≤ ((p2 &&& (2147483647 : Int32)) % (2 : Int32)).toInt ∧ ((p2 &&& (2147483647 : Int32)) % (2 : Int32)).toInt < 2147483648 := rng32 _; have : (p2 &&& (2147483647 : Int32)).toInt = p2.toInt % 2147483648 := c_mask _ _ 31 (by decide) (by decide); have : -2147483648 ≤ (p2 &&& (2147483647 : Int32)).toInt ∧ (p2 &&& (2147483647 : Int32)).toInt < 2147483648 := rng32 _; have : -2147483648 ≤ p2.toInt ∧ p2.toInt < 2147483648 := rng32 _; omega
                    rcases this with h | h
                    · exact Or.inl (Int32.toInt_inj.mp h)
                    · exact Or.inr ((Int32.toInt_inj.mp h))
                  clear hv206
                  rcases hv with rfl | rfl
                  · show Go p.tables e below s _ _ _ (Tj257.setTop (mkF m 257 #[.val (.int p1), .val (.int p2), .val (.int p3), .val (.int k3), .val (.int (0 : Int32)), .val (.int (1 : Int32)), .val (.int av), .val (.int ra), .val (.ref b192), .val (.ref b196), .val (.int (2 : Int32)), .val (.int (0 : Int32)), .val (.ref oa), .val (.int r13), .val (.int r14)] []))
                    refine g_aload Xj257 hx hby at_257 (pc' := 259) rfl rfl rfl ?_
                    refine g_iload Xj257 hx hby at_259 (pc' := 261) rfl rfl ?_
                    refine Go.callV Xj257 hx hZ hown (wi hw 82 rfl) (wi hw 83 rfl) (notFace_of_selects (args := #[]) (mvT hZ (wi hw 85 rfl))) (wi hw 85 rfl) (wi hw 84 rfl) (wi hw 6 rfl) (wi hw 86 rfl) (by decide) ej257 (a := oa) (argsL := [(.int (0 : Int32))]) (rest := []) (W := 0) fj257_0 (rm_numB l Z a0 hw oa (0 : Int32) xk 2 (own_lj [(0 : Int64), (1 : Int64)]) 0 hj257 n0 zj257 fj257_2 fj257_4 rfl (by decide)) (hb hby at_261) (by rw [hml]; rfl) rfl pd6 rfl rfl (by decide) (by decide) (by decide) (by decide) ?_
                    intro v207 T207 L207 X207 hQ207
                    obtain ⟨rfl, Nq207, hh207⟩ := hQ207
                    have N207 := Fr.app Nj257 Nq207
                    show Go p.tables e below s _ _ _ (T207.setTop (mkF m 264 #[.val (.int p1), .val (.int p2), .val (.int p3), .val (.int k3), .val (.int (0 : Int32)), .val (.int (1 : Int32)), .val (.int av), .val (.int ra), .val (.ref b192), .val (.ref b196), .val (.int (2 : Int32)), .val (.int (0 : Int32)), .val (.ref oa), .val (.int r13), .val (.int r14)] [(.long (0 : Int64))]))
                    refine g_aload X207 hx hby at_264 (pc' := 266) rfl rfl rfl ?_
                    refine g_iload X207 hx hby at_266 (pc' := 268) rfl rfl ?_
                    refine Go.laload X207 hx hZ hh207 fj257_5 (k := 0) rfl (by decide) (v := (0 : Int64)) rfl (hb hby at_268) (pc' := 269) rfl ?_
                    refine g_lcmp X207 hx hby at_269 (pc' := 270) rfl  ?_
                    have hc270 : (0 : Int) = (0 : Int) := by decide
                    refine g_ifNo X207 hx hby at_270 (pc' := 273) (teq (show (lcmpW (0 : Int64) (0 : Int64)) = (0 : Int32) from (lw_eq (0 : Int64) (0 : Int64)).mpr (Int64.toInt_inj.mp hc270))).2 rfl ?_
                    refine g_iconst X207 hx hby at_273 (pc' := 274) rfl (z := (1 : Int32)) rfl ?_
                    refine g_goto X207 hx hby at_274 (pc' := 278) (by decide) (by decide) ?_
                    refine Go.retZ X207 hx hlk hret (by simp) (hb hby at_278) (by decide) (by decide) ?_
                    exact ⟨rfl, N207⟩
                  · show Go p.tables e below s _ _ _ (Tj257.setTop (mkF m 257 #[.val (.int p1), .val (.int p2), .val (.int p3), .val (.int k3), .val (.int (0 : Int32)), .val (.int (1 : Int32)), .val (.int av), .val (.int ra), .val (.ref b192), .val (.ref b196), .val (.int (2 : Int32)), .val (.int (1 : Int32)), .val (.ref oa), .val (.int r13), .val (.int r14)] []))
                    refine g_aload Xj257 hx hby at_257 (pc' := 259) rfl rfl rfl ?_
                    refine g_iload Xj257 hx hby at_259 (pc' := 261) rfl rfl ?_
                    refine Go.callV Xj257 hx hZ hown (wi hw 82 rfl) (wi hw 83 rfl) (notFace_of_selects (args := #[]) (mvT hZ (wi hw 85 rfl))) (wi hw 85 rfl) (wi hw 84 rfl) (wi hw 6 rfl) (wi hw 86 rfl) (by decide) ej257 (a := oa) (argsL := [(.int (1 : Int32))]) (rest := []) (W := 0) fj257_0 (rm_numB l Z a0 hw oa (1 : Int32) xk 2 (own_lj [(0 : Int64), (1 : Int64)]) 1 hj257 n0 zj257 fj257_2 fj257_4 rfl (by decide)) (hb hby at_261) (by rw [hml]; rfl) rfl pd6 rfl rfl (by decide) (by decide) (by decide) (by decide) ?_
                    intro v208 T208 L208 X208 hQ208
                    obtain ⟨rfl, Nq208, hh208⟩ := hQ208
                    have N208 := Fr.app Nj257 Nq208
                    show Go p.tables e below s _ _ _ (T208.setTop (mkF m 264 #[.val (.int p1), .val (.int p2), .val (.int p3), .val (.int k3), .val (.int (0 : Int32)), .val (.int (1 : Int32)), .val (.int av), .val (.int ra), .val (.ref b192), .val (.ref b196), .val (.int (2 : Int32)), .val (.int (1 : Int32)), .val (.ref oa), .val (.int r13), .val (.int r14)] [(.long (1 : Int64))]))
                    refine g_aload X208 hx hby at_264 (pc' := 266) rfl rfl rfl ?_
                    refine g_iload X208 hx hby at_266 (pc' := 268) rfl rfl ?_
                    refine Go.laload X208 hx hZ hh208 fj257_5 (k := 1) rfl (by decide) (v := (1 : Int64)) rfl (hb hby at_268) (pc' := 269) rfl ?_
                    refine g_lcmp X208 hx hby at_269 (pc' := 270) rfl  ?_
                    have hc270 : (1 : Int) = (1 : Int) := by decide
                    refine g_ifNo X208 hx hby at_270 (pc' := 273) (teq (show (lcmpW (1 : Int64) (1 : Int64)) = (0 : Int32) from (lw_eq (1 : Int64) (1 : Int64)).mpr (Int64.toInt_inj.mp hc270))).2 rfl ?_
                    refine g_iconst X208 hx hby at_273 (pc' := 274) rfl (z := (1 : Int32)) rfl ?_
                    refine g_goto X208 hx hby at_274 (pc' := 278) (by decide) (by decide) ?_
                    refine Go.retZ X208 hx hlk hret (by simp) (hb hby at_278) (by decide) (by decide) ?_
                    exact ⟨rfl, N208⟩
                intro J257
                rcases hJ66 with rfl | rfl
                · show Go p.tables e below s _ _ _ (Tj246a0.setTop (mkF m 246 #[.val (.int p1), .val (.int p2), .val (.int p3), .val (.int k3), .val (.int (0 : Int32)), .val (.int (1 : Int32)), .val (.int av), .val (.int (0 : Int32)), .val (.ref b192), .val (.ref b196), .val (.int (2 : Int32)), .val (.int v206), .val (.ref oa), .val (.int r13), .val (.int r14)] []))
                  refine g_iload Xj246a0 hx hby at_246 (pc' := 248) rfl rfl ?_
                  have hc248 : (0 : Int) = (0 : Int) := by decide
                  refine g_ifYes Xj246a0 hx hby at_248 (pc' := 257) (teq (show (0 : Int32) = (0 : Int32) from Int32.toInt_inj.mp hc248)).1 (by decide) (by decide) ?_
                  exact J257 (Tj246a0, _, hj246a0, ()) ⟨Xj246a0.more (by decide) (by decide), ej246a0, Nj246a0, zj246a0, fj246a0_0, fj246a0_3, fj246a0_5, fj246a0_6, fj246a0_9, fj246a0_10, (show True from trivial)⟩
                · show Go p.tables e below s _ _ _ (Tj246a0.setTop (mkF m 246 #[.val (.int p1), .val (.int p2), .val (.int p3), .val (.int k3), .val (.int (0 : Int32)), .val (.int (1 : Int32)), .val (.int av), .val (.int (1 : Int32)), .val (.ref b192), .val (.ref b196), .val (.int (2 : Int32)), .val (.int v206), .val (.ref oa), .val (.int r13), .val (.int r14)] []))
                  refine g_iload Xj246a0 hx hby at_246 (pc' := 248) rfl rfl ?_
                  have hc248 : ¬ ((1 : Int) = (0 : Int)) := by decide
                  refine g_ifNo Xj246a0 hx hby at_248 (pc' := 251) (feq (show ¬ ((1 : Int32) = (0 : Int32)) from fun q => hc248 (congrArg Int32.toInt q))).1 rfl ?_
                  refine g_aload Xj246a0 hx hby at_251 (pc' := 253) rfl rfl rfl ?_
                  refine g_iconst Xj246a0 hx hby at_253 (pc' := 254) rfl (z := (0 : Int32)) rfl ?_
                  refine Go.callV Xj246a0 hx hZ hown (wi hw 87 rfl) (wi hw 88 rfl) (notFace_of_selects (args := #[]) (mvT hZ (wi hw 90 rfl))) (wi hw 90 rfl) (wi hw 89 rfl) (wi hw 6 rfl) (wi hw 91 rfl) (by decide) ej246a0 (a := oa) (argsL := [(.int (0 : Int32))]) (rest := []) (W := 0) fj246a0_0 (rm_remove4s l Z a0 hw oa (0 : Int32) xa xb (own_l [(0 : Int32), (0 : Int32), (-1 : Int32), (0 : Int32)]) (own_l [(0 : Int32), (0 : Int32), (-1 : Int32), (0 : Int32)]) (2 : Int32) (2 : Int32) 0 xk (3 : Int64) hj246a0 n0 zj246a0 fj246a0_0 fj246a0_1 fj246a0_2 fj246a0_7 fj246a0_8 fj246a0_3 fj246a0_4 fj246a0_5 fj246a0_6 nn0 nn1 nn2 gg0 gg1 gg2 rfl (by decide)) (hb hby at_254) (by rw [hml]; rfl) rfl pd5 rfl rfl (by decide) (by decide) (by decide) (by decide) ?_
                  intro v209 T209 L209 X209 hQ209
                  obtain ⟨h209, e209⟩ : ∃ z, T209.heap = z := ⟨_, rfl⟩
                  rw [e209] at hQ209
                  obtain ⟨rfl, Nq209, Kq209, Fq0_209, Fq1_209, Fq2_209, Fq3_209, Fq4_209, Fq5_209, Fq6_209, Fq7_209⟩ := hQ209
                  have N209 := Fr.app Nj246a0 Nq209
                  have Fq5_209 : Fld Z h209 oa kES "count" "I" (.int (1 : Int32)) := Fq5_209
                  refine Go.void (pc' := 257) rfl ?_
                  have f210 := fj246a0_0.keep Kq209
                  have f211 := (fj246a0_9.keep Kq209 (ninS nn3 (ninS nn4 (ninS nn5 nin0))))
                  have f212 := (fj246a0_10.keep Kq209 (ninS nn6 (ninS nn7 (ninS nn8 nin0))))
                  exact J257 (T209, _, h209, ()) ⟨X209.more (by decide) (by decide), e209, N209, (Nat.le_trans zj246a0 Kq209.1), f210, Fq4_209, Fq6_209, Fq7_209, f211, f212, (show True from trivial)⟩
              intro J246a0
              refine Go.join (α := State × (List Loc) × Heap × Int32 × Int32 × Int32 × Addr × Addr × Addr × Addr) (P := fun x => (fun (Tj246a1 : State) (Lj246a1 : List Loc) (hj246a1 : Heap) (k3 : Int32) (r13 : Int32) (r14 : Int32) (oa : Addr) (xa : Addr) (xb : Addr) (xk : Addr) => Stand p l e room_1 s m #[(.int p1), (.int p2), (.int p3)] below meth c Tj246a1 Lj246a1 22 80 ∧ Tj246a1.heap = hj246a1 ∧ Fr n0 Lj246a1 ∧ n0 ≤ hj246a1.size ∧ Exa Z hj246a1 oa kES ∧ Fld Z hj246a1 oa kES "sources" "[I" (.ref xa) ∧ Fld Z hj246a1 oa kES "targets" "[I" (.ref xb) ∧ Fld Z hj246a1 oa kES "bound" "I" (.int (3 : Int32)) ∧ Fld Z hj246a1 oa kES "count" "I" (.int (3 : Int32)) ∧ Fld Z hj246a1 oa kES "keptNumbers" "[J" (.ref xk) ∧ Fld Z hj246a1 oa kES "nextNumber" "J" (.long (4 : Int64)) ∧ ArF Z hj246a1 xa .int 4 (fun i => .int ((own_l [(0 : Int32), (0 : Int32), (0 : Int32), (0 : Int32)]) i)) ∧ ArF Z hj246a1 xb .int 4 (fun i => .int ((own_l [(0 : Int32), (0 : Int32), (0 : Int32), (0 : Int32)]) i)) ∧ ArF Z hj246a1 xk .long 2 (fun i => .long ((own_lj [(0 : Int64), (1 : Int64)]) i)) ∧ ArF Z hj246a1 b196 .long 4 (fun i => .long (gE i)) ∧ (xa ≠ oa ∧ xb ≠ oa ∧ xa ≠ xb ∧ xk ≠ oa ∧ xk ≠ xa ∧ xk ≠ xb ∧ b196 ≠ oa ∧ b196 ≠ xa ∧ b196 ≠ xb ∧ n0 ≤ oa ∧ n0 ≤ xa ∧ n0 ≤ xb ∧ av = (1 : Int32))) x.1 x.2.1 x.2.2.1 x.2.2.2.1 x.2.2.2.2.1 x.2.2.2.2.2.1 x.2.2.2.2.2.2.1 x.2.2.2.2.2.2.2.1 x.2.2.2.2.2.2.2.2.1 x.2.2.2.2.2.2.2.2.2) (F := fun x => (fun (Tj246a1 : State) (Lj246a1 : List Loc) (hj246a1 : Heap) (k3 : Int32) (r13 : Int32) (r14 : Int32) (oa : Addr) (xa : Addr) (xb : Addr) (xk : Addr) => Tj246a1.setTop (mkF m 246 #[.val (.int p1), .val (.int p2), .val (.int p3), .val (.int k3), .val (.int (0 : Int32)), .val (.int (1 : Int32)), .val (.int av), .val (.int ra), .val (.ref b192), .val (.ref b196), .val (.int nv), .val (.int v206), .val (.ref oa), .val (.int r13), .val (.int r14)] [])) x.1 x.2.1 x.2.2.1 x.2.2.2.1 x.2.2.2.2.1 x.2.2.2.2.2.1 x.2.2.2.2.2.2.1 x.2.2.2.2.2.2.2.1 x.2.2.2.2.2.2.2.2.1 x.2.2.2.2.2.2.2.2.2) ?_ ?_
              · rintro ⟨Tj246a1, Lj246a1, hj246a1, k3, r13, r14, oa, xa, xb, xk⟩ hP246a1
                obtain ⟨Xj246a1, ej246a1, Nj246a1, zj246a1, fj246a1_0, fj246a1_1, fj246a1_2, fj246a1_3, fj246a1_4, fj246a1_5, fj246a1_6, fj246a1_7, fj246a1_8, fj246a1_9, fj246a1_10, hJ246a1⟩ : Stand p l e room_1 s m #[(.int p1), (.int p2), (.int p3)] below meth c Tj246a1 Lj246a1 22 80 ∧ Tj246a1.heap = hj246a1 ∧ Fr n0 Lj246a1 ∧ n0 ≤ hj246a1.size ∧ Exa Z hj246a1 oa kES ∧ Fld Z hj246a1 oa kES "sources" "[I" (.ref xa) ∧ Fld Z hj246a1 oa kES "targets" "[I" (.ref xb) ∧ Fld Z hj246a1 oa kES "bound" "I" (.int (3 : Int32)) ∧ Fld Z hj246a1 oa kES "count" "I" (.int (3 : Int32)) ∧ Fld Z hj246a1 oa kES "keptNumbers" "[J" (.ref xk) ∧ Fld Z hj246a1 oa kES "nextNumber" "J" (.long (4 : Int64)) ∧ ArF Z hj246a1 xa .int 4 (fun i => .int ((own_l [(0 : Int32), (0 : Int32), (0 : Int32), (0 : Int32)]) i)) ∧ ArF Z hj246a1 xb .int 4 (fun i => .int ((own_l [(0 : Int32), (0 : Int32), (0 : Int32), (0 : Int32)]) i)) ∧ ArF Z hj246a1 xk .long 2 (fun i => .long ((own_lj [(0 : Int64), (1 : Int64)]) i)) ∧ ArF Z hj246a1 b196 .long 4 (fun i => .long (gE i)) ∧ (xa ≠ oa ∧ xb ≠ oa ∧ xa ≠ xb ∧ xk ≠ oa ∧ xk ≠ xa ∧ xk ≠ xb ∧ b196 ≠ oa ∧ b196 ≠ xa ∧ b196 ≠ xb ∧ n0 ≤ oa ∧ n0 ≤ xa ∧ n0 ≤ xb ∧ av = (1 : Int32)) := hP246a1
                show Go p.tables e below s _ _ _ (Tj246a1.setTop (mkF m 246 #[.val (.int p1), .val (.int p2), .val (.int p3), .val (.int k3), .val (.int (0 : Int32)), .val (.int (1 : Int32)), .val (.int av), .val (.int ra), .val (.ref b192), .val (.ref b196), .val (.int nv), .val (.int v206), .val (.ref oa), .val (.int r13), .val (.int r14)] []))
                obtain ⟨nn0, nn1, nn2, nn3, nn4, nn5, nn6, nn7, nn8, gg0, gg1, gg2, hav⟩ := hJ246a1
                have hnv : nv = (3 : Int32) ∧ gE = (own_lj [(0 : Int64), (1 : Int64), (3 : Int64), (0 : Int64)]) := by
                  rcases hJ138 with ⟨hA, h1, h2⟩ | ⟨hA, h1, h2⟩
                  · rw [hav] at hA; exact absurd hA (by decide)
                  · exact ⟨h1, h2⟩
                obtain ⟨rfl, rfl⟩ := hnv
                refine Go.join (α := State × (List Loc) × Heap × Unit) (P := fun x => (fun (Tj257 : State) (Lj257 : List Loc) (hj257 : Heap) (uu : Unit) => Stand p l e room_1 s m #[(.int p1), (.int p2), (.int p3)] below meth c Tj257 Lj257 22 80 ∧ Tj257.heap = hj257 ∧ Fr n0 Lj257 ∧ n0 ≤ hj257.size ∧ Exa Z hj257 oa kES ∧ Fld Z hj257 oa kES "bound" "I" (.int (3 : Int32)) ∧ Fld Z hj257 oa kES "keptNumbers" "[J" (.ref xk) ∧ Fld Z hj257 oa kES "nextNumber" "J" (.long (4 : Int64)) ∧ ArF Z hj257 xk .long 2 (fun i => .long ((own_lj [(0 : Int64), (1 : Int64)]) i)) ∧ ArF Z hj257 b196 .long 4 (fun i => .long ((own_lj [(0 : Int64), (1 : Int64), (3 : Int64), (0 : Int64)]) i)) ∧ (True)) x.1 x.2.1 x.2.2.1 x.2.2.2) (F := fun x => (fun (Tj257 : State) (Lj257 : List Loc) (hj257 : Heap) (uu : Unit) => Tj257.setTop (mkF m 257 #[.val (.int p1), .val (.int p2), .val (.int p3), .val (.int k3), .val (.int (0 : Int32)), .val (.int (1 : Int32)), .val (.int av), .val (.int ra), .val (.ref b192), .val (.ref b196), .val (.int (3 : Int32)), .val (.int v206), .val (.ref oa), .val (.int r13), .val (.int r14)] [])) x.1 x.2.1 x.2.2.1 x.2.2.2) ?_ ?_
                · rintro ⟨Tj257, Lj257, hj257, uu⟩ hP257
                  obtain ⟨Xj257, ej257, Nj257, zj257, fj257_0, fj257_1, fj257_2, fj257_3, fj257_4, fj257_5, hJ257⟩ : Stand p l e room_1 s m #[(.int p1), (.int p2), (.int p3)] below meth c Tj257 Lj257 22 80 ∧ Tj257.heap = hj257 ∧ Fr n0 Lj257 ∧ n0 ≤ hj257.size ∧ Exa Z hj257 oa kES ∧ Fld Z hj257 oa kES "bound" "I" (.int (3 : Int32)) ∧ Fld Z hj257 oa kES "keptNumbers" "[J" (.ref xk) ∧ Fld Z hj257 oa kES "nextNumber" "J" (.long (4 : Int64)) ∧ ArF Z hj257 xk .long 2 (fun i => .long ((own_lj [(0 : Int64), (1 : Int64)]) i)) ∧ ArF Z hj257 b196 .long 4 (fun i => .long ((own_lj [(0 : Int64), (1 : Int64), (3 : Int64), (0 : Int64)]) i)) ∧ (True) := hP257
                  show Go p.tables e below s _ _ _ (Tj257.setTop (mkF m 257 #[.val (.int p1), .val (.int p2), .val (.int p3), .val (.int k3), .val (.int (0 : Int32)), .val (.int (1 : Int32)), .val (.int av), .val (.int ra), .val (.ref b192), .val (.ref b196), .val (.int (3 : Int32)), .val (.int v206), .val (.ref oa), .val (.int r13), .val (.int r14)] []))
                  have hv : v206 = (0 : Int32) ∨ v206 = (1 : Int32) ∨ v206 = (2 : Int32) := by
                    have : v206.toInt = 0 ∨ v206.toInt = 1 ∨ v206.toInt = 2 := by rw [← hv206]; have : (0 ≤ (p2 &&& (2147483647 : Int32)).toInt → ((p2 &&& (2147483647 : Int32)) % (3 : Int32)).toInt = (p2 &&& (2147483647 : Int32)).toInt % 3) ∧ ((p2 &&& (2147483647 : Int32)).toInt < 0 → ((p2 &&& (2147483647 : Int32)) % (3 : Int32)).toInt = -((-(p2 &&& (2147483647 : Int32)).toInt) % 3)) := c_irem _ _ 3 rfl; have : -2147483648 ≤ ((p2 &&& (2147483647 : Int32)) % (3 : Int32)).toInt ∧ ((p2 &&& (2147483647 : Int32)) % (3 : Int32)).toInt < 2147483648 := rng32 _; have : (p2 &&& (2147483647 : Int32)).toInt = p2.toInt % 2147483648 := c_mask _ _ 31 (by decide) (by decide); have : -2147483648 ≤ (p2 &&& (2147483647 : Int32)).toInt ∧ (p2 &&& (2147483647 : Int32)).toInt < 2147483648 := rng32 _; have : -2147483648 ≤ p2.toInt ∧ p2.toInt < 2147483648 := rng32 _; omega
                    rcases this with h | h | h
                    · exact Or.inl (Int32.toInt_inj.mp h)
                    · exact Or.inr (Or.inl (Int32.toInt_inj.mp h))
                    · exact Or.inr (Or.inr ((Int32.toInt_inj.mp h)))
                  clear hv206
                  rcases hv with rfl | rfl | rfl
                  · show Go p.tables e below s _ _ _ (Tj257.setTop (mkF m 257 #[.val (.int p1), .val (.int p2), .val (.int p3), .val (.int k3), .val (.int (0 : Int32)), .val (.int (1 : Int32)), .val (.int av), .val (.int ra), .val (.ref b192), .val (.ref b196), .val (.int (3 : Int32)), .val (.int (0 : Int32)), .val (.ref oa), .val (.int r13), .val (.int r14)] []))
                    refine g_aload Xj257 hx hby at_257 (pc' := 259) rfl rfl rfl ?_
                    refine g_iload Xj257 hx hby at_259 (pc' := 261) rfl rfl ?_
                    refine Go.callV Xj257 hx hZ hown (wi hw 82 rfl) (wi hw 83 rfl) (notFace_of_selects (args := #[]) (mvT hZ (wi hw 85 rfl))) (wi hw 85 rfl) (wi hw 84 rfl) (wi hw 6 rfl) (wi hw 86 rfl) (by decide) ej257 (a := oa) (argsL := [(.int (0 : Int32))]) (rest := []) (W := 0) fj257_0 (rm_numB l Z a0 hw oa (0 : Int32) xk 2 (own_lj [(0 : Int64), (1 : Int64)]) 0 hj257 n0 zj257 fj257_2 fj257_4 rfl (by decide)) (hb hby at_261) (by rw [hml]; rfl) rfl pd6 rfl rfl (by decide) (by decide) (by decide) (by decide) ?_
                    intro v213 T213 L213 X213 hQ213
                    obtain ⟨rfl, Nq213, hh213⟩ := hQ213
                    have N213 := Fr.app Nj257 Nq213
                    show Go p.tables e below s _ _ _ (T213.setTop (mkF m 264 #[.val (.int p1), .val (.int p2), .val (.int p3), .val (.int k3), .val (.int (0 : Int32)), .val (.int (1 : Int32)), .val (.int av), .val (.int ra), .val (.ref b192), .val (.ref b196), .val (.int (3 : Int32)), .val (.int (0 : Int32)), .val (.ref oa), .val (.int r13), .val (.int r14)] [(.long (0 : Int64))]))
                    refine g_aload X213 hx hby at_264 (pc' := 266) rfl rfl rfl ?_
                    refine g_iload X213 hx hby at_266 (pc' := 268) rfl rfl ?_
                    refine Go.laload X213 hx hZ hh213 fj257_5 (k := 0) rfl (by decide) (v := (0 : Int64)) rfl (hb hby at_268) (pc' := 269) rfl ?_
                    refine g_lcmp X213 hx hby at_269 (pc' := 270) rfl  ?_
                    have hc270 : (0 : Int) = (0 : Int) := by decide
                    refine g_ifNo X213 hx hby at_270 (pc' := 273) (teq (show (lcmpW (0 : Int64) (0 : Int64)) = (0 : Int32) from (lw_eq (0 : Int64) (0 : Int64)).mpr (Int64.toInt_inj.mp hc270))).2 rfl ?_
                    refine g_iconst X213 hx hby at_273 (pc' := 274) rfl (z := (1 : Int32)) rfl ?_
                    refine g_goto X213 hx hby at_274 (pc' := 278) (by decide) (by decide) ?_
                    refine Go.retZ X213 hx hlk hret (by simp) (hb hby at_278) (by decide) (by decide) ?_
                    exact ⟨rfl, N213⟩
                  · show Go p.tables e below s _ _ _ (Tj257.setTop (mkF m 257 #[.val (.int p1), .val (.int p2), .val (.int p3), .val (.int k3), .val (.int (0 : Int32)), .val (.int (1 : Int32)), .val (.int av), .val (.int ra), .val (.ref b192), .val (.ref b196), .val (.int (3 : Int32)), .val (.int (1 : Int32)), .val (.ref oa), .val (.int r13), .val (.int r14)] []))
                    refine g_aload Xj257 hx hby at_257 (pc' := 259) rfl rfl rfl ?_
                    refine g_iload Xj257 hx hby at_259 (pc' := 261) rfl rfl ?_
                    refine Go.callV Xj257 hx hZ hown (wi hw 82 rfl) (wi hw 83 rfl) (notFace_of_selects (args := #[]) (mvT hZ (wi hw 85 rfl))) (wi hw 85 rfl) (wi hw 84 rfl) (wi hw 6 rfl) (wi hw 86 rfl) (by decide) ej257 (a := oa) (argsL := [(.int (1 : Int32))]) (rest := []) (W := 0) fj257_0 (rm_numB l Z a0 hw oa (1 : Int32) xk 2 (own_lj [(0 : Int64), (1 : Int64)]) 1 hj257 n0 zj257 fj257_2 fj257_4 rfl (by decide)) (hb hby at_261) (by rw [hml]; rfl) rfl pd6 rfl rfl (by decide) (by decide) (by decide) (by decide) ?_
                    intro v214 T214 L214 X214 hQ214
                    obtain ⟨rfl, Nq214, hh214⟩ := hQ214
                    have N214 := Fr.app Nj257 Nq214
                    show Go p.tables e below s _ _ _ (T214.setTop (mkF m 264 #[.val (.int p1), .val (.int p2), .val (.int p3), .val (.int k3), .val (.int (0 : Int32)), .val (.int (1 : Int32)), .val (.int av), .val (.int ra), .val (.ref b192), .val (.ref b196), .val (.int (3 : Int32)), .val (.int (1 : Int32)), .val (.ref oa), .val (.int r13), .val (.int r14)] [(.long (1 : Int64))]))
                    refine g_aload X214 hx hby at_264 (pc' := 266) rfl rfl rfl ?_
                    refine g_iload X214 hx hby at_266 (pc' := 268) rfl rfl ?_
                    refine Go.laload X214 hx hZ hh214 fj257_5 (k := 1) rfl (by decide) (v := (1 : Int64)) rfl (hb hby at_268) (pc' := 269) rfl ?_
                    refine g_lcmp X214 hx hby at_269 (pc' := 270) rfl  ?_
                    have hc270 : (1 : Int) = (1 : Int) := by decide
                    refine g_ifNo X214 hx hby at_270 (pc' := 273) (teq (show (lcmpW (1 : Int64) (1 : Int64)) = (0 : Int32) from (lw_eq (1 : Int64) (1 : Int64)).mpr (Int64.toInt_inj.mp hc270))).2 rfl ?_
                    refine g_iconst X214 hx hby at_273 (pc' := 274) rfl (z := (1 : Int32)) rfl ?_
                    refine g_goto X214 hx hby at_274 (pc' := 278) (by decide) (by decide) ?_
                    refine Go.retZ X214 hx hlk hret (by simp) (hb hby at_278) (by decide) (by decide) ?_
                    exact ⟨rfl, N214⟩
                  · show Go p.tables e below s _ _ _ (Tj257.setTop (mkF m 257 #[.val (.int p1), .val (.int p2), .val (.int p3), .val (.int k3), .val (.int (0 : Int32)), .val (.int (1 : Int32)), .val (.int av), .val (.int ra), .val (.ref b192), .val (.ref b196), .val (.int (3 : Int32)), .val (.int (2 : Int32)), .val (.ref oa), .val (.int r13), .val (.int r14)] []))
                    refine g_aload Xj257 hx hby at_257 (pc' := 259) rfl rfl rfl ?_
                    refine g_iload Xj257 hx hby at_259 (pc' := 261) rfl rfl ?_
                    refine Go.callV Xj257 hx hZ hown (wi hw 82 rfl) (wi hw 83 rfl) (notFace_of_selects (args := #[]) (mvT hZ (wi hw 85 rfl))) (wi hw 85 rfl) (wi hw 84 rfl) (wi hw 6 rfl) (wi hw 86 rfl) (by decide) ej257 (a := oa) (argsL := [(.int (2 : Int32))]) (rest := []) (W := 0) fj257_0 (rm_numA l Z a0 hw oa (2 : Int32) xk (3 : Int32) (4 : Int64) 2 (own_lj [(0 : Int64), (1 : Int64)]) hj257 n0 zj257 fj257_2 fj257_1 fj257_3 fj257_4 (by decide)) (hb hby at_261) (by rw [hml]; rfl) rfl pd6 rfl rfl (by decide) (by decide) (by decide) (by decide) ?_
                    intro v215 T215 L215 X215 hQ215
                    obtain ⟨rfl, Nq215, hh215⟩ := hQ215
                    have N215 := Fr.app Nj257 Nq215
                    show Go p.tables e below s _ _ _ (T215.setTop (mkF m 264 #[.val (.int p1), .val (.int p2), .val (.int p3), .val (.int k3), .val (.int (0 : Int32)), .val (.int (1 : Int32)), .val (.int av), .val (.int ra), .val (.ref b192), .val (.ref b196), .val (.int (3 : Int32)), .val (.int (2 : Int32)), .val (.ref oa), .val (.int r13), .val (.int r14)] [(.long (3 : Int64))]))
                    refine g_aload X215 hx hby at_264 (pc' := 266) rfl rfl rfl ?_
                    refine g_iload X215 hx hby at_266 (pc' := 268) rfl rfl ?_
                    refine Go.laload X215 hx hZ hh215 fj257_5 (k := 2) rfl (by decide) (v := (3 : Int64)) rfl (hb hby at_268) (pc' := 269) rfl ?_
                    refine g_lcmp X215 hx hby at_269 (pc' := 270) rfl  ?_
                    have hc270 : (3 : Int) = (3 : Int) := by decide
                    refine g_ifNo X215 hx hby at_270 (pc' := 273) (teq (show (lcmpW (3 : Int64) (3 : Int64)) = (0 : Int32) from (lw_eq (3 : Int64) (3 : Int64)).mpr (Int64.toInt_inj.mp hc270))).2 rfl ?_
                    refine g_iconst X215 hx hby at_273 (pc' := 274) rfl (z := (1 : Int32)) rfl ?_
                    refine g_goto X215 hx hby at_274 (pc' := 278) (by decide) (by decide) ?_
                    refine Go.retZ X215 hx hlk hret (by simp) (hb hby at_278) (by decide) (by decide) ?_
                    exact ⟨rfl, N215⟩
                intro J257
                rcases hJ66 with rfl | rfl
                · show Go p.tables e below s _ _ _ (Tj246a1.setTop (mkF m 246 #[.val (.int p1), .val (.int p2), .val (.int p3), .val (.int k3), .val (.int (0 : Int32)), .val (.int (1 : Int32)), .val (.int av), .val (.int (0 : Int32)), .val (.ref b192), .val (.ref b196), .val (.int (3 : Int32)), .val (.int v206), .val (.ref oa), .val (.int r13), .val (.int r14)] []))
                  refine g_iload Xj246a1 hx hby at_246 (pc' := 248) rfl rfl ?_
                  have hc248 : (0 : Int) = (0 : Int) := by decide
                  refine g_ifYes Xj246a1 hx hby at_248 (pc' := 257) (teq (show (0 : Int32) = (0 : Int32) from Int32.toInt_inj.mp hc248)).1 (by decide) (by decide) ?_
                  exact J257 (Tj246a1, _, hj246a1, ()) ⟨Xj246a1.more (by decide) (by decide), ej246a1, Nj246a1, zj246a1, fj246a1_0, fj246a1_3, fj246a1_5, fj246a1_6, fj246a1_9, fj246a1_10, (show True from trivial)⟩
                · show Go p.tables e below s _ _ _ (Tj246a1.setTop (mkF m 246 #[.val (.int p1), .val (.int p2), .val (.int p3), .val (.int k3), .val (.int (0 : Int32)), .val (.int (1 : Int32)), .val (.int av), .val (.int (1 : Int32)), .val (.ref b192), .val (.ref b196), .val (.int (3 : Int32)), .val (.int v206), .val (.ref oa), .val (.int r13), .val (.int r14)] []))
                  refine g_iload Xj246a1 hx hby at_246 (pc' := 248) rfl rfl ?_
                  have hc248 : ¬ ((1 : Int) = (0 : Int)) := by decide
                  refine g_ifNo Xj246a1 hx hby at_248 (pc' := 251) (feq (show ¬ ((1 : Int32) = (0 : Int32)) from fun q => hc248 (congrArg Int32.toInt q))).1 rfl ?_
                  refine g_aload Xj246a1 hx hby at_251 (pc' := 253) rfl rfl rfl ?_
                  refine g_iconst Xj246a1 hx hby at_253 (pc' := 254) rfl (z := (0 : Int32)) rfl ?_
                  refine Go.callV Xj246a1 hx hZ hown (wi hw 87 rfl) (wi hw 88 rfl) (notFace_of_selects (args := #[]) (mvT hZ (wi hw 90 rfl))) (wi hw 90 rfl) (wi hw 89 rfl) (wi hw 6 rfl) (wi hw 91 rfl) (by decide) ej246a1 (a := oa) (argsL := [(.int (0 : Int32))]) (rest := []) (W := 0) fj246a1_0 (rm_remove4s l Z a0 hw oa (0 : Int32) xa xb (own_l [(0 : Int32), (0 : Int32), (0 : Int32), (0 : Int32)]) (own_l [(0 : Int32), (0 : Int32), (0 : Int32), (0 : Int32)]) (3 : Int32) (3 : Int32) 0 xk (4 : Int64) hj246a1 n0 zj246a1 fj246a1_0 fj246a1_1 fj246a1_2 fj246a1_7 fj246a1_8 fj246a1_3 fj246a1_4 fj246a1_5 fj246a1_6 nn0 nn1 nn2 gg0 gg1 gg2 rfl (by decide)) (hb hby at_254) (by rw [hml]; rfl) rfl pd5 rfl rfl (by decide) (by decide) (by decide) (by decide) ?_
                  intro v216 T216 L216 X216 hQ216
                  obtain ⟨h216, e216⟩ : ∃ z, T216.heap = z := ⟨_, rfl⟩
                  rw [e216] at hQ216
                  obtain ⟨rfl, Nq216, Kq216, Fq0_216, Fq1_216, Fq2_216, Fq3_216, Fq4_216, Fq5_216, Fq6_216, Fq7_216⟩ := hQ216
                  have N216 := Fr.app Nj246a1 Nq216
                  have Fq5_216 : Fld Z h216 oa kES "count" "I" (.int (2 : Int32)) := Fq5_216
                  refine Go.void (pc' := 257) rfl ?_
                  have f217 := fj246a1_0.keep Kq216
                  have f218 := (fj246a1_9.keep Kq216 (ninS nn3 (ninS nn4 (ninS nn5 nin0))))
                  have f219 := (fj246a1_10.keep Kq216 (ninS nn6 (ninS nn7 (ninS nn8 nin0))))
                  exact J257 (T216, _, h216, ()) ⟨X216.more (by decide) (by decide), e216, N216, (Nat.le_trans zj246a1 Kq216.1), f217, Fq4_216, Fq6_216, Fq7_216, f218, f219, (show True from trivial)⟩
              intro J246a1
              rcases hJ12 with rfl | rfl
              · show Go p.tables e below s _ _ _ (Tj138.setTop (mkF m 147 #[.val (.int p1), .val (.int p2), .val (.int p3), .val (.int (0 : Int32)), .val (.int (0 : Int32)), .val (.int (1 : Int32)), .val (.int av), .val (.int ra), .val (.ref b192), .val (.ref b196), .val (.int nv), .val (.int v206), .unset, .unset, .unset] []))
                refine g_new Xj138 hx hby hZ hown (wi hw 4 rfl) (wi hw 5 rfl) (wi hw 6 rfl) ej138 at_147 (pc' := 150) rfl (by decide) (by decide) ?_
                intro T220 h220 b220 X220 e220 E220 hb220 A220 D220
                have g221 : n0 ≤ b220 := by rw [hb220]; exact zj138
                have F222 : Fld Z h220 b220 "com/example/edgewise/edgewise/EdgeSlots" "sources" "[I" .null := D220 (Or.inl (wi hw 14 rfl)) (ty := (.array .int)) (by decide)
                have F223 : Fld Z h220 b220 "com/example/edgewise/edgewise/EdgeSlots" "targets" "[I" .null := D220 (Or.inl (wi hw 16 rfl)) (ty := (.array .int)) (by decide)
                have F224 : Fld Z h220 b220 "com/example/edgewise/edgewise/EdgeSlots" "sourcePositions" "[I" .null := D220 (Or.inl (wi hw 18 rfl)) (ty := (.array .int)) (by decide)
                have F225 : Fld Z h220 b220 "com/example/edgewise/edgewise/EdgeSlots" "targetPositions" "[I" .null := D220 (Or.inl (wi hw 20 rfl)) (ty := (.array .int)) (by decide)
                have F226 : Fld Z h220 b220 "com/example/edgewise/edgewise/EdgeSlots" "weights" "[D" .null := D220 (Or.inl (wi hw 23 rfl)) (ty := (.array .double)) (by decide)
                have F227 : Fld Z h220 b220 "com/example/edgewise/edgewise/EdgeSlots" "keys" "[I" .null := D220 (Or.inl (wi hw 25 rfl)) (ty := (.array .int)) (by decide)
                have F228 : Fld Z h220 b220 "com/example/edgewise/edgewise/EdgeSlots" "keptNumbers" "[J" .null := D220 (Or.inl (wi hw 27 rfl)) (ty := (.array .long)) (by decide)
                have F229 : Fld Z h220 b220 "com/example/edgewise/edgewise/EdgeSlots" "keyed" "Z" (.int (0 : Int32)) := D220 (Or.inr (wi hw 29 rfl)) (ty := .boolean) (by decide)
                have F230 : Fld Z h220 b220 "com/example/edgewise/edgewise/EdgeSlots" "bound" "I" (.int (0 : Int32)) := D220 (Or.inl (wi hw 36 rfl)) (ty := .int) (by decide)
                have F231 : Fld Z h220 b220 "com/example/edgewise/edgewise/EdgeSlots" "count" "I" (.int (0 : Int32)) := D220 (Or.inl (wi hw 71 rfl)) (ty := .int) (by decide)
                have F232 : Fld Z h220 b220 "com/example/edgewise/edgewise/EdgeSlots" "nextNumber" "J" (.long (0 : Int64)) := D220 (Or.inl (wi hw 73 rfl)) (ty := .long) (by decide)
                refine g_dup X220 hx hby at_150 (pc' := 151) rfl rfl ?_
                refine g_iloadN X220 hx hby at_151 (pc' := 152) rfl rfl ?_
                refine Go.callI X220 hx hZ hown rfl (wi hw 7 rfl) (wi hw 8 rfl) (wi hw 6 rfl) (wi hw 9 rfl) (by decide) e220 (a := b220) (argsL := [(.int (0 : Int32))]) (rest := [(.ref b220)]) (W := 1) (rm_init0 l Z a0 hw b220 h220 n0 (Nat.le_trans zj138 E220.1) A220 F222 F223 F224 F225 F226 F227 F228 F229 F230 F231 F232 g221) (hb hby at_152) (by rw [hml]; rfl) rfl pd7 rfl rfl (by decide) (by decide) (by decide) (by decide) ?_
                intro v233 T233 L233 X233 hQ233
                obtain ⟨h233, e233⟩ : ∃ z, T233.heap = z := ⟨_, rfl⟩
                rw [e233] at hQ233
                obtain ⟨b1_233, b2_233, b3_233, b4_233, b5_233, b6_233, b7_233, rfl, Nq233, Kq233, gqb1_233, sqb1_233, gqb2_233, sqb2_233, gqb3_233, sqb3_233, gqb4_233, sqb4_233, gqb5_233, sqb5_233, gqb6_233, sqb6_233, gqb7_233, sqb7_233, nqb1_b2_233, nqb1_b3_233, nqb1_b4_233, nqb1_b5_233, nqb1_b6_233, nqb1_b7_233, nqb2_b3_233, nqb2_b4_233, nqb2_b5_233, nqb2_b6_233, nqb2_b7_233, nqb3_b4_233, nqb3_b5_233, nqb3_b6_233, nqb3_b7_233, nqb4_b5_233, nqb4_b6_233, nqb4_b7_233, nqb5_b6_233, nqb5_b7_233, nqb6_b7_233, Fq0_233, Fq1_233, Fq2_233, Fq3_233, Fq4_233, Fq5_233, Fq6_233, Fq7_233, Fq8_233, Fq9_233, Fq10_233, Fq11_233, Fq12_233, Fq13_233, Fq14_233, Fq15_233, Fq16_233, Fq17_233⟩ := hQ233
                have N233 := Fr.app Nj138 Nq233
                refine Go.void (pc' := 155) rfl ?_
                refine g_astore X233 hx hby at_155 (pc' := 157) rfl rfl (L' := #[.val (.int p1), .val (.int p2), .val (.int p3), .val (.int (0 : Int32)), .val (.int (0 : Int32)), .val (.int (1 : Int32)), .val (.int av), .val (.int ra), .val (.ref b192), .val (.ref b196), .val (.int nv), .val (.int v206), .val (.ref b220), .unset, .unset]) rfl ?_
                refine g_aload X233 hx hby at_157 (pc' := 159) rfl rfl rfl ?_
                refine g_iconst X233 hx hby at_159 (pc' := 160) rfl (z := (0 : Int32)) rfl ?_
                refine g_iconst X233 hx hby at_160 (pc' := 161) rfl (z := (0 : Int32)) rfl ?_
                refine Go.of (fun _ k => XS.dconst0 X233.here hx rfl (hb hby at_161) (v := FP.dconst0) rfl k) ?_
                show Go p.tables e below s _ _ _ (T233.setTop (mkF m 162 #[.val (.int p1), .val (.int p2), .val (.int p3), .val (.int (0 : Int32)), .val (.int (0 : Int32)), .val (.int (1 : Int32)), .val (.int av), .val (.int ra), .val (.ref b192), .val (.ref b196), .val (.int nv), .val (.int v206), .val (.ref b220), .unset, .unset] [(.double FP.dconst0), (.int (0 : Int32)), (.int (0 : Int32)), (.ref b220)]))
                refine g_iloadN X233 hx hby at_162 (pc' := 163) rfl rfl ?_
                have f235 := A220.keep Kq233
                have ne236 : b220 ≠ b1_233 := Nat.ne_of_lt (Nat.lt_of_lt_of_le F232.lt sqb1_233)
                have ne237 : b220 ≠ b2_233 := Nat.ne_of_lt (Nat.lt_of_lt_of_le F232.lt sqb2_233)
                have ne238 : b220 ≠ b3_233 := Nat.ne_of_lt (Nat.lt_of_lt_of_le F232.lt sqb3_233)
                have ne239 : b220 ≠ b4_233 := Nat.ne_of_lt (Nat.lt_of_lt_of_le F232.lt sqb4_233)
                have ne240 : b220 ≠ b5_233 := Nat.ne_of_lt (Nat.lt_of_lt_of_le F232.lt sqb5_233)
                have ne241 : b220 ≠ b6_233 := Nat.ne_of_lt (Nat.lt_of_lt_of_le F232.lt sqb6_233)
                refine Go.callV X233 hx hZ hown (wi hw 30 rfl) (wi hw 31 rfl) (notFace_of_selects (args := #[]) (mvT hZ (wi hw 33 rfl))) (wi hw 33 rfl) (wi hw 32 rfl) (wi hw 6 rfl) (wi hw 34 rfl) (by decide) e233 (a := b220) (argsL := [(.int (0 : Int32)), (.int (0 : Int32)), (.double FP.dconst0), (.int p3)]) (rest := []) (W := 0) f235 (rm_addA0 l Z a0 hw b220 (0 : Int32) (0 : Int32) FP.dconst0 p3 b1_233 b2_233 b3_233 b4_233 b5_233 b6_233 b7_233 (fun _ => (0 : Int32)) (fun _ => (0 : Int32)) (fun _ => (0 : Int32)) (fun _ => (0 : Int32)) (fun _ => (0 : UInt64)) (fun _ => (0 : Int32)) (0 : Int32) (0 : Int64) h233 n0 (Nat.le_trans (Nat.le_trans zj138 E220.1) Kq233.1) f235 Fq7_233 Fq6_233 Fq0_233 Fq1_233 Fq2_233 Fq3_233 Fq4_233 Fq5_233 Fq11_233 Fq12_233 Fq13_233 Fq14_233 Fq15_233 Fq16_233 Fq8_233 Fq9_233 Fq10_233 (Ne.symm ne236) (Ne.symm ne237) (Ne.symm ne238) (Ne.symm ne239) (Ne.symm ne240) (Ne.symm ne241) g221) (hb hby at_163) (by rw [hml]; rfl) rfl pd8 rfl rfl (by decide) (by decide) (by decide) (by decide) ?_
                intro v234 T234 L234 X234 hQ234
                obtain ⟨h234, e234⟩ : ∃ z, T234.heap = z := ⟨_, rfl⟩
                rw [e234] at hQ234
                obtain ⟨b1_234, b2_234, b3_234, b4_234, b5_234, rfl, Nq234, Kq234, gqb1_234, sqb1_234, gqb2_234, sqb2_234, gqb3_234, sqb3_234, gqb4_234, sqb4_234, gqb5_234, sqb5_234, nqb1_b2_234, nqb1_b3_234, nqb1_b4_234, nqb1_b5_234, nqb2_b3_234, nqb2_b4_234, nqb2_b5_234, nqb3_b4_234, nqb3_b5_234, nqb4_b5_234, Fq0_234, Fq1_234, Fq2_234, Fq3_234, Fq4_234, Fq5_234, Fq6_234, Fq7_234, Fq8_234, Fq9_234, Fq10_234, Fq11_234, Fq12_234, Fq13_234, Fq14_234, Fq15_234⟩ := hQ234
                have N234 := Fr.app N233 Nq234
                have Fq9_234 : Fld Z h234 b220 kES "count" "I" (.int (1 : Int32)) := Fq9_234
                have Fq10_234 : Fld Z h234 b220 kES "nextNumber" "J" (.long (1 : Int64)) := Fq10_234
                refine Go.push (pc' := 166) rfl ?_
                refine g_istore X234 hx hby at_166 (pc' := 168) rfl (L' := #[.val (.int p1), .val (.int p2), .val (.int p3), .val (.int (0 : Int32)), .val (.int (0 : Int32)), .val (.int (1 : Int32)), .val (.int av), .val (.int ra), .val (.ref b192), .val (.ref b196), .val (.int nv), .val (.int v206), .val (.ref b220), .val (.int (0 : Int32)), .unset]) rfl ?_
                have V242 : ArF Z h234 b1_234 .int 4 (fun i => .int ((own_l [(0 : Int32), (0 : Int32), (0 : Int32), (0 : Int32)]) i)) := Fq11_234.congr (fun i hi => congrArg Value.int ((by decide : ∀ i, i < 4 → (own_l [(0 : Int32), (0 : Int32), (0 : Int32), (0 : Int32)]) i = (upI (fun _ => (0 : Int32)) 0 (0 : Int32)) i) i hi))
                have V243 : ArF Z h234 b2_234 .int 4 (fun i => .int ((own_l [(0 : Int32), (0 : Int32), (0 : Int32), (0 : Int32)]) i)) := Fq12_234.congr (fun i hi => congrArg Value.int ((by decide : ∀ i, i < 4 → (own_l [(0 : Int32), (0 : Int32), (0 : Int32), (0 : Int32)]) i = (upI (fun _ => (0 : Int32)) 0 (0 : Int32)) i) i hi))
                have ne244 : b192 ≠ b220 := Nat.ne_of_lt (by rw [hb220]; exact fj138_0.lt)
                have f245 := (((fj138_0.ext E220).keep Kq233 (ninS ne244 nin0)).keep Kq234 (ninS ne244 nin0))
                refine g_iload X234 hx hby at_168 (pc' := 170) rfl rfl ?_
                have hc170 : (0 : Int) = (0 : Int) := by decide
                refine g_ifYes X234 hx hby at_170 (pc' := 180) (teq (show (0 : Int32) = (0 : Int32) from Int32.toInt_inj.mp hc170)).1 (by decide) (by decide) ?_
                refine g_aload X234 hx hby at_180 (pc' := 182) rfl rfl rfl ?_
                refine g_aload X234 hx hby at_182 (pc' := 184) rfl rfl rfl ?_
                refine g_aconst_null X234 hx hby at_184 (pc' := 185) rfl  ?_
                refine g_aconst_null X234 hx hby at_185 (pc' := 186) rfl  ?_
                have f247 := f235.keep Kq234
                have ne248 : b220 ≠ b7_233 := Nat.ne_of_lt (Nat.lt_of_lt_of_le F232.lt sqb7_233)
                have f249 := (Fq17_233.keep Kq234 (ninS (Ne.symm ne248) nin0))
                have ne250 : b220 ≠ b1_234 := Nat.ne_of_lt (Nat.lt_of_lt_of_le f235.lt sqb1_234)
                have ne251 : b220 ≠ b2_234 := Nat.ne_of_lt (Nat.lt_of_lt_of_le f235.lt sqb2_234)
                have ne252 : b7_233 ≠ b1_234 := Nat.ne_of_lt (Nat.lt_of_lt_of_le Fq17_233.lt sqb1_234)
                have ne253 : b7_233 ≠ b2_234 := Nat.ne_of_lt (Nat.lt_of_lt_of_le Fq17_233.lt sqb2_234)
                have ne254 : b192 ≠ b1_234 := Nat.ne_of_lt (Nat.lt_of_lt_of_le ((fj138_0.ext E220).keep Kq233 (ninS ne244 nin0)).lt sqb1_234)
                have ne255 : b192 ≠ b2_234 := Nat.ne_of_lt (Nat.lt_of_lt_of_le ((fj138_0.ext E220).keep Kq233 (ninS ne244 nin0)).lt sqb2_234)
                refine Go.callV X234 hx hZ hown (wi hw 74 rfl) (wi hw 75 rfl) (notFace_of_selects (args := #[]) (mvT hZ (wi hw 77 rfl))) (wi hw 77 rfl) (wi hw 76 rfl) (wi hw 6 rfl) (wi hw 78 rfl) (by decide) e234 (a := b220) (argsL := [(.ref b192), .null, .null]) (rest := []) (W := 0) f247 (rm_compactA0 l Z a0 hw b220 b192 b1_234 b2_234 b7_233 (0 : Int32) b3_234 b4_234 b5_234 b6_233 (fun _ => (0 : Int64)) h234 n0 (Nat.le_trans (Nat.le_trans (Nat.le_trans zj138 E220.1) Kq233.1) Kq234.1) f247 Fq2_234 Fq3_234 Fq8_234 Fq9_234 Fq1_234 Fq10_234 Fq0_234 Fq4_234 Fq5_234 Fq6_234 Fq7_234 V242 V243 f249 f245 (Ne.symm ne250) (Ne.symm ne251) nqb1_b2_234 (Ne.symm ne248) ne252 ne253 ne244 ne254 ne255 g221 gqb1_234 gqb2_234) (hb hby at_186) (by rw [hml]; rfl) rfl pd9 rfl rfl (by decide) (by decide) (by decide) (by decide) ?_
                intro v246 T246 L246 X246 hQ246
                obtain ⟨h246, e246⟩ : ∃ z, T246.heap = z := ⟨_, rfl⟩
                rw [e246] at hQ246
                obtain ⟨rfl, Nq246, Kq246, Fq0_246, Fq1_246, Fq2_246, Fq3_246, Fq4_246, Fq5_246, Fq6_246, Fq7_246, Fq8_246, Fq9_246, Fq10_246, Fq11_246, Fq12_246⟩ := hQ246
                have N246 := Fr.app N234 Nq246
                refine Go.void (pc' := 189) rfl ?_
                have f256 := (f245.keep Kq246 (ninS ne244 (ninS ne254 (ninS ne255 nin0))))
                refine g_aload X246 hx hby at_189 (pc' := 191) rfl rfl rfl ?_
                refine g_iconst X246 hx hby at_191 (pc' := 192) rfl (z := (0 : Int32)) rfl ?_
                refine g_iconst X246 hx hby at_192 (pc' := 193) rfl (z := (0 : Int32)) rfl ?_
                refine Go.of (fun _ k => XS.dconst0 X246.here hx rfl (hb hby at_193) (v := FP.dconst0) rfl k) ?_
                show Go p.tables e below s _ _ _ (T246.setTop (mkF m 194 #[.val (.int p1), .val (.int p2), .val (.int p3), .val (.int (0 : Int32)), .val (.int (0 : Int32)), .val (.int (1 : Int32)), .val (.int av), .val (.int ra), .val (.ref b192), .val (.ref b196), .val (.int nv), .val (.int v206), .val (.ref b220), .val (.int (0 : Int32)), .unset] [(.double FP.dconst0), (.int (0 : Int32)), (.int (0 : Int32)), (.ref b220)]))
                refine g_iloadN X246 hx hby at_194 (pc' := 195) rfl rfl ?_
                have f258 := f247.keep Kq246
                have ne259 : b220 ≠ b5_234 := Nat.ne_of_lt (Nat.lt_of_lt_of_le f235.lt sqb5_234)
                have f260 := (Fq15_234.keep Kq246 (ninS (Ne.symm ne259) (ninS (Ne.symm nqb1_b5_234) (ninS (Ne.symm nqb2_b5_234) nin0))))
                refine Go.callV X246 hx hZ hown (wi hw 30 rfl) (wi hw 31 rfl) (notFace_of_selects (args := #[]) (mvT hZ (wi hw 33 rfl))) (wi hw 33 rfl) (wi hw 32 rfl) (wi hw 6 rfl) (wi hw 34 rfl) (by decide) e246 (a := b220) (argsL := [(.int (0 : Int32)), (.int (0 : Int32)), (.double FP.dconst0), (.int p3)]) (rest := []) (W := 0) f258 (rm_addB0 l Z a0 hw b220 (0 : Int32) (0 : Int32) FP.dconst0 p3 b1_234 b2_234 b3_234 b4_234 b5_234 b6_233 b7_233 (own_l [(0 : Int32), (0 : Int32), (0 : Int32), (0 : Int32)]) (own_l [(0 : Int32), (0 : Int32), (0 : Int32), (0 : Int32)]) (upD (fun _ => (0 : UInt64)) 0 FP.dconst0) (1 : Int32) (1 : Int32) (1 : Int64) 1 h246 n0 (Nat.le_trans (Nat.le_trans (Nat.le_trans (Nat.le_trans zj138 E220.1) Kq233.1) Kq234.1) Kq246.1) f258 Fq6_246 Fq4_246 Fq0_246 Fq1_246 Fq7_246 Fq8_246 Fq9_246 Fq10_246 Fq11_246 Fq12_246 f260 Fq2_246 Fq3_246 Fq5_246 (Ne.symm ne250) (Ne.symm ne251) (Ne.symm ne259) nqb1_b2_234 nqb1_b5_234 nqb2_b5_234 g221 gqb1_234 gqb2_234 gqb5_234 rfl (by decide)) (hb hby at_195) (by rw [hml]; rfl) rfl pd8 rfl rfl (by decide) (by decide) (by decide) (by decide) ?_
                intro v257 T257 L257 X257 hQ257
                obtain ⟨h257, e257⟩ : ∃ z, T257.heap = z := ⟨_, rfl⟩
                rw [e257] at hQ257
                obtain ⟨rfl, Nq257, Kq257, Fq0_257, Fq1_257, Fq2_257, Fq3_257, Fq4_257, Fq5_257, Fq6_257, Fq7_257, Fq8_257, Fq9_257, Fq10_257, Fq11_257, Fq12_257, Fq13_257⟩ := hQ257
                have N257 := Fr.app N246 Nq257
                have Fq8_257 : Fld Z h257 b220 kES "bound" "I" (.int (2 : Int32)) := Fq8_257
                have Fq9_257 : Fld Z h257 b220 kES "count" "I" (.int (2 : Int32)) := Fq9_257
                have Fq10_257 : Fld Z h257 b220 kES "nextNumber" "J" (.long (2 : Int64)) := Fq10_257
                refine Go.push (pc' := 198) rfl ?_
                refine g_pop X257 hx hby at_198 (pc' := 199) rfl rfl ?_
                have V261 : ArF Z h257 b1_234 .int 4 (fun i => .int ((own_l [(0 : Int32), (0 : Int32), (0 : Int32), (0 : Int32)]) i)) := Fq11_257.congr (fun i hi => congrArg Value.int ((by decide : ∀ i, i < 4 → (own_l [(0 : Int32), (0 : Int32), (0 : Int32), (0 : Int32)]) i = (upI (own_l [(0 : Int32), (0 : Int32), (0 : Int32), (0 : Int32)]) 1 (0 : Int32)) i) i hi))
                have V262 : ArF Z h257 b2_234 .int 4 (fun i => .int ((own_l [(0 : Int32), (0 : Int32), (0 : Int32), (0 : Int32)]) i)) := Fq12_257.congr (fun i hi => congrArg Value.int ((by decide : ∀ i, i < 4 → (own_l [(0 : Int32), (0 : Int32), (0 : Int32), (0 : Int32)]) i = (upI (own_l [(0 : Int32), (0 : Int32), (0 : Int32), (0 : Int32)]) 1 (0 : Int32)) i) i hi))
                have ne263 : b192 ≠ b5_234 := Nat.ne_of_lt (Nat.lt_of_lt_of_le ((fj138_0.ext E220).keep Kq233 (ninS ne244 nin0)).lt sqb5_234)
                have f264 := (f256.keep Kq257 (ninS ne244 (ninS ne254 (ninS ne255 (ninS ne263 nin0)))))
                refine g_aload X257 hx hby at_199 (pc' := 201) rfl rfl rfl ?_
                refine g_iconst X257 hx hby at_201 (pc' := 202) rfl (z := (0 : Int32)) rfl ?_
                refine g_iconst X257 hx hby at_202 (pc' := 203) rfl (z := (0 : Int32)) rfl ?_
                refine Go.of (fun _ k => XS.dconst0 X257.here hx rfl (hb hby at_203) (v := FP.dconst0) rfl k) ?_
                show Go p.tables e below s _ _ _ (T257.setTop (mkF m 204 #[.val (.int p1), .val (.int p2), .val (.int p3), .val (.int (0 : Int32)), .val (.int (0 : Int32)), .val (.int (1 : Int32)), .val (.int av), .val (.int ra), .val (.ref b192), .val (.ref b196), .val (.int nv), .val (.int v206), .val (.ref b220), .val (.int (0 : Int32)), .unset] [(.double FP.dconst0), (.int (0 : Int32)), (.int (0 : Int32)), (.ref b220)]))
                refine g_iloadN X257 hx hby at_204 (pc' := 205) rfl rfl ?_
                have f266 := f258.keep Kq257
                refine Go.callV X257 hx hZ hown (wi hw 30 rfl) (wi hw 31 rfl) (notFace_of_selects (args := #[]) (mvT hZ (wi hw 33 rfl))) (wi hw 33 rfl) (wi hw 32 rfl) (wi hw 6 rfl) (wi hw 34 rfl) (by decide) e257 (a := b220) (argsL := [(.int (0 : Int32)), (.int (0 : Int32)), (.double FP.dconst0), (.int p3)]) (rest := []) (W := 0) f266 (rm_addB0 l Z a0 hw b220 (0 : Int32) (0 : Int32) FP.dconst0 p3 b1_234 b2_234 b3_234 b4_234 b5_234 b6_233 b7_233 (own_l [(0 : Int32), (0 : Int32), (0 : Int32), (0 : Int32)]) (own_l [(0 : Int32), (0 : Int32), (0 : Int32), (0 : Int32)]) (upD (upD (fun _ => (0 : UInt64)) 0 FP.dconst0) 1 FP.dconst0) (2 : Int32) (2 : Int32) (2 : Int64) 2 h257 n0 (Nat.le_trans (Nat.le_trans (Nat.le_trans (Nat.le_trans (Nat.le_trans zj138 E220.1) Kq233.1) Kq234.1) Kq246.1) Kq257.1) f266 Fq0_257 Fq1_257 Fq2_257 Fq3_257 Fq4_257 Fq5_257 Fq6_257 Fq7_257 V261 V262 Fq13_257 Fq8_257 Fq9_257 Fq10_257 (Ne.symm ne250) (Ne.symm ne251) (Ne.symm ne259) nqb1_b2_234 nqb1_b5_234 nqb2_b5_234 g221 gqb1_234 gqb2_234 gqb5_234 rfl (by decide)) (hb hby at_205) (by rw [hml]; rfl) rfl pd8 rfl rfl (by decide) (by decide) (by decide) (by decide) ?_
                intro v265 T265 L265 X265 hQ265
                obtain ⟨h265, e265⟩ : ∃ z, T265.heap = z := ⟨_, rfl⟩
                rw [e265] at hQ265
                obtain ⟨rfl, Nq265, Kq265, Fq0_265, Fq1_265, Fq2_265, Fq3_265, Fq4_265, Fq5_265, Fq6_265, Fq7_265, Fq8_265, Fq9_265, Fq10_265, Fq11_265, Fq12_265, Fq13_265⟩ := hQ265
                have N265 := Fr.app N257 Nq265
                have Fq8_265 : Fld Z h265 b220 kES "bound" "I" (.int (3 : Int32)) := Fq8_265
                have Fq9_265 : Fld Z h265 b220 kES "count" "I" (.int (3 : Int32)) := Fq9_265
                have Fq10_265 : Fld Z h265 b220 kES "nextNumber" "J" (.long (3 : Int64)) := Fq10_265
                refine Go.push (pc' := 208) rfl ?_
                refine g_istore X265 hx hby at_208 (pc' := 210) rfl (L' := #[.val (.int p1), .val (.int p2), .val (.int p3), .val (.int (0 : Int32)), .val (.int (0 : Int32)), .val (.int (1 : Int32)), .val (.int av), .val (.int ra), .val (.ref b192), .val (.ref b196), .val (.int nv), .val (.int v206), .val (.ref b220), .val (.int (0 : Int32)), .val (.int (2 : Int32))]) rfl ?_
                have V267 : ArF Z h265 b1_234 .int 4 (fun i => .int ((own_l [(0 : Int32), (0 : Int32), (0 : Int32), (0 : Int32)]) i)) := Fq11_265.congr (fun i hi => congrArg Value.int ((by decide : ∀ i, i < 4 → (own_l [(0 : Int32), (0 : Int32), (0 : Int32), (0 : Int32)]) i = (upI (own_l [(0 : Int32), (0 : Int32), (0 : Int32), (0 : Int32)]) 2 (0 : Int32)) i) i hi))
                have V268 : ArF Z h265 b2_234 .int 4 (fun i => .int ((own_l [(0 : Int32), (0 : Int32), (0 : Int32), (0 : Int32)]) i)) := Fq12_265.congr (fun i hi => congrArg Value.int ((by decide : ∀ i, i < 4 → (own_l [(0 : Int32), (0 : Int32), (0 : Int32), (0 : Int32)]) i = (upI (own_l [(0 : Int32), (0 : Int32), (0 : Int32), (0 : Int32)]) 2 (0 : Int32)) i) i hi))
                have f269 := (f264.keep Kq265 (ninS ne244 (ninS ne254 (ninS ne255 (ninS ne263 nin0)))))
                refine g_iload X265 hx hby at_210 (pc' := 212) rfl rfl ?_
                have hc212 : ¬ ((1 : Int) = (0 : Int)) := by decide
                refine g_ifNo X265 hx hby at_212 (pc' := 215) (feq (show ¬ ((1 : Int32) = (0 : Int32)) from fun q => hc212 (congrArg Int32.toInt q))).1 rfl ?_
                refine g_aload X265 hx hby at_215 (pc' := 217) rfl rfl rfl ?_
                refine g_iload X265 hx hby at_217 (pc' := 219) rfl rfl ?_
                have f271 := f266.keep Kq265
                refine Go.callV X265 hx hZ hown (wi hw 87 rfl) (wi hw 88 rfl) (notFace_of_selects (args := #[]) (mvT hZ (wi hw 90 rfl))) (wi hw 90 rfl) (wi hw 89 rfl) (wi hw 6 rfl) (wi hw 91 rfl) (by decide) e265 (a := b220) (argsL := [(.int (2 : Int32))]) (rest := []) (W := 0) f271 (rm_remove4 l Z a0 hw b220 (2 : Int32) b1_234 b2_234 (own_l [(0 : Int32), (0 : Int32), (0 : Int32), (0 : Int32)]) (own_l [(0 : Int32), (0 : Int32), (0 : Int32), (0 : Int32)]) (3 : Int32) (3 : Int32) 2 (0 : Int32) b3_234 b4_234 b5_234 b6_233 b7_233 (3 : Int64) h265 n0 (Nat.le_trans (Nat.le_trans (Nat.le_trans (Nat.le_trans (Nat.le_trans (Nat.le_trans zj138 E220.1) Kq233.1) Kq234.1) Kq246.1) Kq257.1) Kq265.1) f271 Fq2_265 Fq3_265 V267 V268 Fq8_265 Fq9_265 Fq0_265 Fq4_265 Fq5_265 Fq6_265 Fq7_265 Fq1_265 Fq10_265 (Ne.symm ne250) (Ne.symm ne251) nqb1_b2_234 g221 gqb1_234 gqb2_234 rfl (by decide)) (hb hby at_219) (by rw [hml]; rfl) rfl pd5 rfl rfl (by decide) (by decide) (by decide) (by decide) ?_
                intro v270 T270 L270 X270 hQ270
                obtain ⟨h270, e270⟩ : ∃ z, T270.heap = z := ⟨_, rfl⟩
                rw [e270] at hQ270
                obtain ⟨rfl, Nq270, Kq270, Fq0_270, Fq1_270, Fq2_270, Fq3_270, Fq4_270, Fq5_270, Fq6_270, Fq7_270, Fq8_270, Fq9_270, Fq10_270, Fq11_270, Fq12_270⟩ := hQ270
                have N270 := Fr.app N265 Nq270
                have z272 : n0 ≤ h270.size := (Nat.le_trans (Nat.le_trans (Nat.le_trans (Nat.le_trans (Nat.le_trans (Nat.le_trans (Nat.le_trans zj138 E220.1) Kq233.1) Kq234.1) Kq246.1) Kq257.1) Kq265.1) Kq270.1)
                have Fq5_270 : Fld Z h270 b220 kES "count" "I" (.int (2 : Int32)) := Fq5_270
                refine Go.void (pc' := 222) rfl ?_
                have V273 : ArF Z h270 b1_234 .int 4 (fun i => .int ((own_l [(0 : Int32), (0 : Int32), (-1 : Int32), (0 : Int32)]) i)) := Fq2_270.congr (fun i hi => congrArg Value.int ((by decide : ∀ i, i < 4 → (own_l [(0 : Int32), (0 : Int32), (-1 : Int32), (0 : Int32)]) i = (upI (own_l [(0 : Int32), (0 : Int32), (0 : Int32), (0 : Int32)]) 2 (-1 : Int32)) i) i hi))
                have V274 : ArF Z h270 b2_234 .int 4 (fun i => .int ((own_l [(0 : Int32), (0 : Int32), (-1 : Int32), (0 : Int32)]) i)) := Fq3_270.congr (fun i hi => congrArg Value.int ((by decide : ∀ i, i < 4 → (own_l [(0 : Int32), (0 : Int32), (-1 : Int32), (0 : Int32)]) i = (upI (own_l [(0 : Int32), (0 : Int32), (0 : Int32), (0 : Int32)]) 2 (-1 : Int32)) i) i hi))
                have f275 := (f269.keep Kq270 (ninS ne244 (ninS ne254 (ninS ne255 nin0))))
                refine g_aload X270 hx hby at_222 (pc' := 224) rfl rfl rfl ?_
                refine g_aload X270 hx hby at_224 (pc' := 226) rfl rfl rfl ?_
                refine g_aconst_null X270 hx hby at_226 (pc' := 227) rfl  ?_
                refine g_aconst_null X270 hx hby at_227 (pc' := 228) rfl  ?_
                have f277 := f271.keep Kq270
                have ne278 : b7_233 ≠ b5_234 := Nat.ne_of_lt (Nat.lt_of_lt_of_le Fq17_233.lt sqb5_234)
                have f279 := ((((f249.keep Kq246 (ninS (Ne.symm ne248) (ninS ne252 (ninS ne253 nin0)))).keep Kq257 (ninS (Ne.symm ne248) (ninS ne252 (ninS ne253 (ninS ne278 nin0))))).keep Kq265 (ninS (Ne.symm ne248) (ninS ne252 (ninS ne253 (ninS ne278 nin0))))).keep Kq270 (ninS (Ne.symm ne248) (ninS ne252 (ninS ne253 nin0))))
                refine Go.callV X270 hx hZ hown (wi hw 74 rfl) (wi hw 75 rfl) (notFace_of_selects (args := #[]) (mvT hZ (wi hw 77 rfl))) (wi hw 77 rfl) (wi hw 76 rfl) (wi hw 6 rfl) (wi hw 78 rfl) (by decide) e270 (a := b220) (argsL := [(.ref b192), .null, .null]) (rest := []) (W := 0) f277 (rm_compactB01 l Z a0 hw b220 b192 b1_234 b2_234 b7_233 (0 : Int32) b3_234 b4_234 b5_234 b6_233 (fun _ => (0 : Int64)) h270 n0 z272 f277 Fq0_270 Fq1_270 Fq4_270 Fq5_270 Fq11_270 Fq12_270 Fq6_270 Fq7_270 Fq8_270 Fq9_270 Fq10_270 V273 V274 f279 f275 (Ne.symm ne250) (Ne.symm ne251) nqb1_b2_234 (Ne.symm ne248) ne252 ne253 ne244 ne254 ne255 g221 gqb1_234 gqb2_234) (hb hby at_228) (by rw [hml]; rfl) rfl pd9 rfl rfl (by decide) (by decide) (by decide) (by decide) ?_
                intro v276 T276 L276 X276 hQ276
                obtain ⟨h276, e276⟩ : ∃ z, T276.heap = z := ⟨_, rfl⟩
                rw [e276] at hQ276
                obtain ⟨b1_276, rfl, Nq276, Kq276, gqb1_276, sqb1_276, Fq0_276, Fq1_276, Fq2_276, Fq3_276, Fq4_276, Fq5_276, Fq6_276, Fq7_276, Fq8_276, Fq9_276, Fq10_276, Fq11_276, Fq12_276, Fq13_276⟩ := hQ276
                have N276 := Fr.app N270 Nq276
                refine Go.void (pc' := 231) rfl ?_
                have f280 := (f275.keep Kq276 (ninS ne244 (ninS ne254 (ninS ne255 nin0))))
                have hA0 := hJ52
                rcases hA0 with hA | hA
                · have hA' := congrArg Int32.toInt hA
                  refine g_iload X276 hx hby at_231 (pc' := 233) rfl rfl ?_
                  have hc233 : av.toInt = (0 : Int) := hA'
                  refine g_ifYes X276 hx hby at_233 (pc' := 246) (teq (show av = (0 : Int32) from Int32.toInt_inj.mp hc233)).1 (by decide) (by decide) ?_
                  have ne281 : b220 ≠ b1_276 := Nat.ne_of_lt (Nat.lt_of_lt_of_le f277.lt sqb1_276)
                  have ne282 : b1_234 ≠ b1_276 := Nat.ne_of_lt (Nat.lt_of_lt_of_le V273.lt sqb1_276)
                  have ne283 : b2_234 ≠ b1_276 := Nat.ne_of_lt (Nat.lt_of_lt_of_le V274.lt sqb1_276)
                  have ne284 : b196 ≠ b220 := Nat.ne_of_lt (by rw [hb220]; exact fj138_1.lt)
                  have ne285 : b196 ≠ b1_234 := Nat.ne_of_lt (Nat.lt_of_lt_of_le ((fj138_1.ext E220).keep Kq233 (ninS ne284 nin0)).lt sqb1_234)
                  have ne286 : b196 ≠ b2_234 := Nat.ne_of_lt (Nat.lt_of_lt_of_le ((fj138_1.ext E220).keep Kq233 (ninS ne284 nin0)).lt sqb2_234)
                  have f287 := f277.keep Kq276
                  have ne288 : b196 ≠ b5_234 := Nat.ne_of_lt (Nat.lt_of_lt_of_le ((fj138_1.ext E220).keep Kq233 (ninS ne284 nin0)).lt sqb5_234)
                  have f289 := ((((((((fj138_1.ext E220).keep Kq233 (ninS ne284 nin0)).keep Kq234 (ninS ne284 nin0)).keep Kq246 (ninS ne284 (ninS ne285 (ninS ne286 nin0)))).keep Kq257 (ninS ne284 (ninS ne285 (ninS ne286 (ninS ne288 nin0))))).keep Kq265 (ninS ne284 (ninS ne285 (ninS ne286 (ninS ne288 nin0))))).keep Kq270 (ninS ne284 (ninS ne285 (ninS ne286 nin0)))).keep Kq276 (ninS ne284 (ninS ne285 (ninS ne286 nin0))))
                  exact J246a0 (T276, _, h276, (0 : Int32), (0 : Int32), (2 : Int32), b220, b1_234, b2_234, b1_276) ⟨X276.more (by decide) (by decide), e276, N276, (Nat.le_trans z272 Kq276.1), f287, Fq0_276, Fq1_276, Fq2_276, Fq3_276, Fq4_276, Fq5_276, Fq11_276, Fq12_276, Fq13_276, f289, (show b1_234 ≠ b220 ∧ b2_234 ≠ b220 ∧ b1_234 ≠ b2_234 ∧ b1_276 ≠ b220 ∧ b1_276 ≠ b1_234 ∧ b1_276 ≠ b2_234 ∧ b196 ≠ b220 ∧ b196 ≠ b1_234 ∧ b196 ≠ b2_234 ∧ n0 ≤ b220 ∧ n0 ≤ b1_234 ∧ n0 ≤ b2_234 ∧ av = (0 : Int32) from ⟨(Ne.symm ne250), (Ne.symm ne251), nqb1_b2_234, (Ne.symm ne281), (Ne.symm ne282), (Ne.symm ne283), ne284, ne285, ne286, g221, gqb1_234, gqb2_234, hA⟩)⟩
                · have hA' := congrArg Int32.toInt hA
                  refine g_iload X276 hx hby at_231 (pc' := 233) rfl rfl ?_
                  have hc233 : ¬ (av.toInt = (0 : Int)) := by intro q; rw [hA'] at q; exact absurd q (by decide)
                  refine g_ifNo X276 hx hby at_233 (pc' := 236) (feq (show ¬ (av = (0 : Int32)) from fun q => hc233 (congrArg Int32.toInt q))).1 rfl ?_
                  refine g_aload X276 hx hby at_236 (pc' := 238) rfl rfl rfl ?_
                  refine g_iconst X276 hx hby at_238 (pc' := 239) rfl (z := (0 : Int32)) rfl ?_
                  refine g_iconst X276 hx hby at_239 (pc' := 240) rfl (z := (0 : Int32)) rfl ?_
                  refine Go.of (fun _ k => XS.dconst0 X276.here hx rfl (hb hby at_240) (v := FP.dconst0) rfl k) ?_
                  show Go p.tables e below s _ _ _ (T276.setTop (mkF m 241 #[.val (.int p1), .val (.int p2), .val (.int p3), .val (.int (0 : Int32)), .val (.int (0 : Int32)), .val (.int (1 : Int32)), .val (.int av), .val (.int ra), .val (.ref b192), .val (.ref b196), .val (.int nv), .val (.int v206), .val (.ref b220), .val (.int (0 : Int32)), .val (.int (2 : Int32))] [(.double FP.dconst0), (.int (0 : Int32)), (.int (0 : Int32)), (.ref b220)]))
                  refine g_iloadN X276 hx hby at_241 (pc' := 242) rfl rfl ?_
                  have f291 := f277.keep Kq276
                  have f292 := ((Fq13_265.keep Kq270 (ninS (Ne.symm ne259) (ninS (Ne.symm nqb1_b5_234) (ninS (Ne.symm nqb2_b5_234) nin0)))).keep Kq276 (ninS (Ne.symm ne259) (ninS (Ne.symm nqb1_b5_234) (ninS (Ne.symm nqb2_b5_234) nin0))))
                  refine Go.callV X276 hx hZ hown (wi hw 30 rfl) (wi hw 31 rfl) (notFace_of_selects (args := #[]) (mvT hZ (wi hw 33 rfl))) (wi hw 33 rfl) (wi hw 32 rfl) (wi hw 6 rfl) (wi hw 34 rfl) (by decide) e276 (a := b220) (argsL := [(.int (0 : Int32)), (.int (0 : Int32)), (.double FP.dconst0), (.int p3)]) (rest := []) (W := 0) f291 (rm_addB0 l Z a0 hw b220 (0 : Int32) (0 : Int32) FP.dconst0 p3 b1_234 b2_234 b3_234 b4_234 b5_234 b6_233 b1_276 (own_l [(0 : Int32), (0 : Int32), (-1 : Int32), (0 : Int32)]) (own_l [(0 : Int32), (0 : Int32), (-1 : Int32), (0 : Int32)]) (upD (upD (upD (fun _ => (0 : UInt64)) 0 FP.dconst0) 1 FP.dconst0) 2 FP.dconst0) (2 : Int32) (2 : Int32) (3 : Int64) 2 h276 n0 (Nat.le_trans z272 Kq276.1) f291 Fq6_276 Fq4_276 Fq0_276 Fq1_276 Fq7_276 Fq8_276 Fq9_276 Fq10_276 Fq11_276 Fq12_276 f292 Fq2_276 Fq3_276 Fq5_276 (Ne.symm ne250) (Ne.symm ne251) (Ne.symm ne259) nqb1_b2_234 nqb1_b5_234 nqb2_b5_234 g221 gqb1_234 gqb2_234 gqb5_234 rfl (by decide)) (hb hby at_242) (by rw [hml]; rfl) rfl pd8 rfl rfl (by decide) (by decide) (by decide) (by decide) ?_
                  intro v290 T290 L290 X290 hQ290
                  obtain ⟨h290, e290⟩ : ∃ z, T290.heap = z := ⟨_, rfl⟩
                  rw [e290] at hQ290
                  obtain ⟨rfl, Nq290, Kq290, Fq0_290, Fq1_290, Fq2_290, Fq3_290, Fq4_290, Fq5_290, Fq6_290, Fq7_290, Fq8_290, Fq9_290, Fq10_290, Fq11_290, Fq12_290, Fq13_290⟩ := hQ290
                  have N290 := Fr.app N276 Nq290
                  have Fq8_290 : Fld Z h290 b220 kES "bound" "I" (.int (3 : Int32)) := Fq8_290
                  have Fq9_290 : Fld Z h290 b220 kES "count" "I" (.int (3 : Int32)) := Fq9_290
                  have Fq10_290 : Fld Z h290 b220 kES "nextNumber" "J" (.long (4 : Int64)) := Fq10_290
                  refine Go.push (pc' := 245) rfl ?_
                  refine g_pop X290 hx hby at_245 (pc' := 246) rfl rfl ?_
                  have V293 : ArF Z h290 b1_234 .int 4 (fun i => .int ((own_l [(0 : Int32), (0 : Int32), (0 : Int32), (0 : Int32)]) i)) := Fq11_290.congr (fun i hi => congrArg Value.int ((by decide : ∀ i, i < 4 → (own_l [(0 : Int32), (0 : Int32), (0 : Int32), (0 : Int32)]) i = (upI (own_l [(0 : Int32), (0 : Int32), (-1 : Int32), (0 : Int32)]) 2 (0 : Int32)) i) i hi))
                  have V294 : ArF Z h290 b2_234 .int 4 (fun i => .int ((own_l [(0 : Int32), (0 : Int32), (0 : Int32), (0 : Int32)]) i)) := Fq12_290.congr (fun i hi => congrArg Value.int ((by decide : ∀ i, i < 4 → (own_l [(0 : Int32), (0 : Int32), (0 : Int32), (0 : Int32)]) i = (upI (own_l [(0 : Int32), (0 : Int32), (-1 : Int32), (0 : Int32)]) 2 (0 : Int32)) i) i hi))
                  have ne295 : b220 ≠ b1_276 := Nat.ne_of_lt (Nat.lt_of_lt_of_le f277.lt sqb1_276)
                  have ne296 : b1_234 ≠ b1_276 := Nat.ne_of_lt (Nat.lt_of_lt_of_le V273.lt sqb1_276)
                  have ne297 : b2_234 ≠ b1_276 := Nat.ne_of_lt (Nat.lt_of_lt_of_le V274.lt sqb1_276)
                  have ne298 : b196 ≠ b220 := Nat.ne_of_lt (by rw [hb220]; exact fj138_1.lt)
                  have ne299 : b196 ≠ b1_234 := Nat.ne_of_lt (Nat.lt_of_lt_of_le ((fj138_1.ext E220).keep Kq233 (ninS ne298 nin0)).lt sqb1_234)
                  have ne300 : b196 ≠ b2_234 := Nat.ne_of_lt (Nat.lt_of_lt_of_le ((fj138_1.ext E220).keep Kq233 (ninS ne298 nin0)).lt sqb2_234)
                  have f301 := f291.keep Kq290
                  have ne302 : b5_234 ≠ b1_276 := Nat.ne_of_lt (Nat.lt_of_lt_of_le (Fq13_265.keep Kq270 (ninS (Ne.symm ne259) (ninS (Ne.symm nqb1_b5_234) (ninS (Ne.symm nqb2_b5_234) nin0)))).lt sqb1_276)
                  have f303 := (Fq13_276.keep Kq290 (ninS (Ne.symm ne295) (ninS (Ne.symm ne296) (ninS (Ne.symm ne297) (ninS (Ne.symm ne302) nin0)))))
                  have ne304 : b196 ≠ b5_234 := Nat.ne_of_lt (Nat.lt_of_lt_of_le ((fj138_1.ext E220).keep Kq233 (ninS ne298 nin0)).lt sqb5_234)
                  have f305 := (((((((((fj138_1.ext E220).keep Kq233 (ninS ne298 nin0)).keep Kq234 (ninS ne298 nin0)).keep Kq246 (ninS ne298 (ninS ne299 (ninS ne300 nin0)))).keep Kq257 (ninS ne298 (ninS ne299 (ninS ne300 (ninS ne304 nin0))))).keep Kq265 (ninS ne298 (ninS ne299 (ninS ne300 (ninS ne304 nin0))))).keep Kq270 (ninS ne298 (ninS ne299 (ninS ne300 nin0)))).keep Kq276 (ninS ne298 (ninS ne299 (ninS ne300 nin0)))).keep Kq290 (ninS ne298 (ninS ne299 (ninS ne300 (ninS ne304 nin0)))))
                  exact J246a1 (T290, _, h290, (0 : Int32), (0 : Int32), (2 : Int32), b220, b1_234, b2_234, b1_276) ⟨X290.more (by decide) (by decide), e290, N290, (Nat.le_trans (Nat.le_trans z272 Kq276.1) Kq290.1), f301, Fq2_290, Fq3_290, Fq8_290, Fq9_290, Fq1_290, Fq10_290, V293, V294, f303, f305, (show b1_234 ≠ b220 ∧ b2_234 ≠ b220 ∧ b1_234 ≠ b2_234 ∧ b1_276 ≠ b220 ∧ b1_276 ≠ b1_234 ∧ b1_276 ≠ b2_234 ∧ b196 ≠ b220 ∧ b196 ≠ b1_234 ∧ b196 ≠ b2_234 ∧ n0 ≤ b220 ∧ n0 ≤ b1_234 ∧ n0 ≤ b2_234 ∧ av = (1 : Int32) from ⟨(Ne.symm ne250), (Ne.symm ne251), nqb1_b2_234, (Ne.symm ne295), (Ne.symm ne296), (Ne.symm ne297), ne298, ne299, ne300, g221, gqb1_234, gqb2_234, hA⟩)⟩
              · show Go p.tables e below s _ _ _ (Tj138.setTop (mkF m 147 #[.val (.int p1), .val (.int p2), .val (.int p3), .val (.int (1 : Int32)), .val (.int (0 : Int32)), .val (.int (1 : Int32)), .val (.int av), .val (.int ra), .val (.ref b192), .val (.ref b196), .val (.int nv), .val (.int v206), .unset, .unset, .unset] []))
                refine g_new Xj138 hx hby hZ hown (wi hw 4 rfl) (wi hw 5 rfl) (wi hw 6 rfl) ej138 at_147 (pc' := 150) rfl (by decide) (by decide) ?_
                intro T306 h306 b306 X306 e306 E306 hb306 A306 D306
                have g307 : n0 ≤ b306 := by rw [hb306]; exact zj138
                have F308 : Fld Z h306 b306 "com/example/edgewise/edgewise/EdgeSlots" "sources" "[I" .null := D306 (Or.inl (wi hw 14 rfl)) (ty := (.array .int)) (by decide)
                have F309 : Fld Z h306 b306 "com/example/edgewise/edgewise/EdgeSlots" "targets" "[I" .null := D306 (Or.inl (wi hw 16 rfl)) (ty := (.array .int)) (by decide)
                have F310 : Fld Z h306 b306 "com/example/edgewise/edgewise/EdgeSlots" "sourcePositions" "[I" .null := D306 (Or.inl (wi hw 18 rfl)) (ty := (.array .int)) (by decide)
                have F311 : Fld Z h306 b306 "com/example/edgewise/edgewise/EdgeSlots" "targetPositions" "[I" .null := D306 (Or.inl (wi hw 20 rfl)) (ty := (.array .int)) (by decide)
                have F312 : Fld Z h306 b306 "com/example/edgewise/edgewise/EdgeSlots" "weights" "[D" .null := D306 (Or.inl (wi hw 23 rfl)) (ty := (.array .double)) (by decide)
                have F313 : Fld Z h306 b306 "com/example/edgewise/edgewise/EdgeSlots" "keys" "[I" .null := D306 (Or.inl (wi hw 25 rfl)) (ty := (.array .int)) (by decide)
                have F314 : Fld Z h306 b306 "com/example/edgewise/edgewise/EdgeSlots" "keptNumbers" "[J" .null := D306 (Or.inl (wi hw 27 rfl)) (ty := (.array .long)) (by decide)
                have F315 : Fld Z h306 b306 "com/example/edgewise/edgewise/EdgeSlots" "keyed" "Z" (.int (0 : Int32)) := D306 (Or.inr (wi hw 29 rfl)) (ty := .boolean) (by decide)
                have F316 : Fld Z h306 b306 "com/example/edgewise/edgewise/EdgeSlots" "bound" "I" (.int (0 : Int32)) := D306 (Or.inl (wi hw 36 rfl)) (ty := .int) (by decide)
                have F317 : Fld Z h306 b306 "com/example/edgewise/edgewise/EdgeSlots" "count" "I" (.int (0 : Int32)) := D306 (Or.inl (wi hw 71 rfl)) (ty := .int) (by decide)
                have F318 : Fld Z h306 b306 "com/example/edgewise/edgewise/EdgeSlots" "nextNumber" "J" (.long (0 : Int64)) := D306 (Or.inl (wi hw 73 rfl)) (ty := .long) (by decide)
                refine g_dup X306 hx hby at_150 (pc' := 151) rfl rfl ?_
                refine g_iloadN X306 hx hby at_151 (pc' := 152) rfl rfl ?_
                refine Go.callI X306 hx hZ hown rfl (wi hw 7 rfl) (wi hw 8 rfl) (wi hw 6 rfl) (wi hw 9 rfl) (by decide) e306 (a := b306) (argsL := [(.int (1 : Int32))]) (rest := [(.ref b306)]) (W := 1) (rm_init1 l Z a0 hw b306 h306 n0 (Nat.le_trans zj138 E306.1) A306 F308 F309 F310 F311 F312 F313 F314 F315 F316 F317 F318 g307) (hb hby at_152) (by rw [hml]; rfl) rfl pd7 rfl rfl (by decide) (by decide) (by decide) (by decide) ?_
                intro v319 T319 L319 X319 hQ319
                obtain ⟨h319, e319⟩ : ∃ z, T319.heap = z := ⟨_, rfl⟩
                rw [e319] at hQ319
                obtain ⟨b1_319, b2_319, b3_319, b4_319, b5_319, b6_319, b7_319, rfl, Nq319, Kq319, gqb1_319, sqb1_319, gqb2_319, sqb2_319, gqb3_319, sqb3_319, gqb4_319, sqb4_319, gqb5_319, sqb5_319, gqb6_319, sqb6_319, gqb7_319, sqb7_319, nqb1_b2_319, nqb1_b3_319, nqb1_b4_319, nqb1_b5_319, nqb1_b6_319, nqb1_b7_319, nqb2_b3_319, nqb2_b4_319, nqb2_b5_319, nqb2_b6_319, nqb2_b7_319, nqb3_b4_319, nqb3_b5_319, nqb3_b6_319, nqb3_b7_319, nqb4_b5_319, nqb4_b6_319, nqb4_b7_319, nqb5_b6_319, nqb5_b7_319, nqb6_b7_319, Fq0_319, Fq1_319, Fq2_319, Fq3_319, Fq4_319, Fq5_319, Fq6_319, Fq7_319, Fq8_319, Fq9_319, Fq10_319, Fq11_319, Fq12_319, Fq13_319, Fq14_319, Fq15_319, Fq16_319, Fq17_319⟩ := hQ319
                have N319 := Fr.app Nj138 Nq319
                refine Go.void (pc' := 155) rfl ?_
                refine g_astore X319 hx hby at_155 (pc' := 157) rfl rfl (L' := #[.val (.int p1), .val (.int p2), .val (.int p3), .val (.int (1 : Int32)), .val (.int (0 : Int32)), .val (.int (1 : Int32)), .val (.int av), .val (.int ra), .val (.ref b192), .val (.ref b196), .val (.int nv), .val (.int v206), .val (.ref b306), .unset, .unset]) rfl ?_
                refine g_aload X319 hx hby at_157 (pc' := 159) rfl rfl rfl ?_
                refine g_iconst X319 hx hby at_159 (pc' := 160) rfl (z := (0 : Int32)) rfl ?_
                refine g_iconst X319 hx hby at_160 (pc' := 161) rfl (z := (0 : Int32)) rfl ?_
                refine Go.of (fun _ k => XS.dconst0 X319.here hx rfl (hb hby at_161) (v := FP.dconst0) rfl k) ?_
                show Go p.tables e below s _ _ _ (T319.setTop (mkF m 162 #[.val (.int p1), .val (.int p2), .val (.int p3), .val (.int (1 : Int32)), .val (.int (0 : Int32)), .val (.int (1 : Int32)), .val (.int av), .val (.int ra), .val (.ref b192), .val (.ref b196), .val (.int nv), .val (.int v206), .val (.ref b306), .unset, .unset] [(.double FP.dconst0), (.int (0 : Int32)), (.int (0 : Int32)), (.ref b306)]))
                refine g_iloadN X319 hx hby at_162 (pc' := 163) rfl rfl ?_
                have f321 := A306.keep Kq319
                have ne322 : b306 ≠ b1_319 := Nat.ne_of_lt (Nat.lt_of_lt_of_le F318.lt sqb1_319)
                have ne323 : b306 ≠ b2_319 := Nat.ne_of_lt (Nat.lt_of_lt_of_le F318.lt sqb2_319)
                have ne324 : b306 ≠ b3_319 := Nat.ne_of_lt (Nat.lt_of_lt_of_le F318.lt sqb3_319)
                have ne325 : b306 ≠ b4_319 := Nat.ne_of_lt (Nat.lt_of_lt_of_le F318.lt sqb4_319)
                have ne326 : b306 ≠ b5_319 := Nat.ne_of_lt (Nat.lt_of_lt_of_le F318.lt sqb5_319)
                have ne327 : b306 ≠ b6_319 := Nat.ne_of_lt (Nat.lt_of_lt_of_le F318.lt sqb6_319)
                refine Go.callV X319 hx hZ hown (wi hw 30 rfl) (wi hw 31 rfl) (notFace_of_selects (args := #[]) (mvT hZ (wi hw 33 rfl))) (wi hw 33 rfl) (wi hw 32 rfl) (wi hw 6 rfl) (wi hw 34 rfl) (by decide) e319 (a := b306) (argsL := [(.int (0 : Int32)), (.int (0 : Int32)), (.double FP.dconst0), (.int p3)]) (rest := []) (W := 0) f321 (rm_addA1 l Z a0 hw b306 (0 : Int32) (0 : Int32) FP.dconst0 p3 b1_319 b2_319 b3_319 b4_319 b5_319 b6_319 b7_319 (fun _ => (0 : Int32)) (fun _ => (0 : Int32)) (fun _ => (0 : Int32)) (fun _ => (0 : Int32)) (fun _ => (0 : UInt64)) (fun _ => (0 : Int32)) (0 : Int32) (0 : Int64) h319 n0 (Nat.le_trans (Nat.le_trans zj138 E306.1) Kq319.1) f321 Fq7_319 Fq6_319 Fq0_319 Fq1_319 Fq2_319 Fq3_319 Fq4_319 Fq5_319 Fq11_319 Fq12_319 Fq13_319 Fq14_319 Fq15_319 Fq16_319 Fq8_319 Fq9_319 Fq10_319 (Ne.symm ne322) (Ne.symm ne323) (Ne.symm ne324) (Ne.symm ne325) (Ne.symm ne326) (Ne.symm ne327) g307) (hb hby at_163) (by rw [hml]; rfl) rfl pd8 rfl rfl (by decide) (by decide) (by decide) (by decide) ?_
                intro v320 T320 L320 X320 hQ320
                obtain ⟨h320, e320⟩ : ∃ z, T320.heap = z := ⟨_, rfl⟩
                rw [e320] at hQ320
                obtain ⟨b1_320, b2_320, b3_320, b4_320, b5_320, b6_320, rfl, Nq320, Kq320, gqb1_320, sqb1_320, gqb2_320, sqb2_320, gqb3_320, sqb3_320, gqb4_320, sqb4_320, gqb5_320, sqb5_320, gqb6_320, sqb6_320, nqb1_b2_320, nqb1_b3_320, nqb1_b4_320, nqb1_b5_320, nqb1_b6_320, nqb2_b3_320, nqb2_b4_320, nqb2_b5_320, nqb2_b6_320, nqb3_b4_320, nqb3_b5_320, nqb3_b6_320, nqb4_b5_320, nqb4_b6_320, nqb5_b6_320, Fq0_320, Fq1_320, Fq2_320, Fq3_320, Fq4_320, Fq5_320, Fq6_320, Fq7_320, Fq8_320, Fq9_320, Fq10_320, Fq11_320, Fq12_320, Fq13_320, Fq14_320, Fq15_320, Fq16_320⟩ := hQ320
                have N320 := Fr.app N319 Nq320
                have Fq9_320 : Fld Z h320 b306 kES "count" "I" (.int (1 : Int32)) := Fq9_320
                have Fq10_320 : Fld Z h320 b306 kES "nextNumber" "J" (.long (1 : Int64)) := Fq10_320
                refine Go.push (pc' := 166) rfl ?_
                refine g_istore X320 hx hby at_166 (pc' := 168) rfl (L' := #[.val (.int p1), .val (.int p2), .val (.int p3), .val (.int (1 : Int32)), .val (.int (0 : Int32)), .val (.int (1 : Int32)), .val (.int av), .val (.int ra), .val (.ref b192), .val (.ref b196), .val (.int nv), .val (.int v206), .val (.ref b306), .val (.int (0 : Int32)), .unset]) rfl ?_
                have V328 : ArF Z h320 b1_320 .int 4 (fun i => .int ((own_l [(0 : Int32), (0 : Int32), (0 : Int32), (0 : Int32)]) i)) := Fq11_320.congr (fun i hi => congrArg Value.int ((by decide : ∀ i, i < 4 → (own_l [(0 : Int32), (0 : Int32), (0 : Int32), (0 : Int32)]) i = (upI (fun _ => (0 : Int32)) 0 (0 : Int32)) i) i hi))
                have V329 : ArF Z h320 b2_320 .int 4 (fun i => .int ((own_l [(0 : Int32), (0 : Int32), (0 : Int32), (0 : Int32)]) i)) := Fq12_320.congr (fun i hi => congrArg Value.int ((by decide : ∀ i, i < 4 → (own_l [(0 : Int32), (0 : Int32), (0 : Int32), (0 : Int32)]) i = (upI (fun _ => (0 : Int32)) 0 (0 : Int32)) i) i hi))
                have ne330 : b192 ≠ b306 := Nat.ne_of_lt (by rw [hb306]; exact fj138_0.lt)
                have f331 := (((fj138_0.ext E306).keep Kq319 (ninS ne330 nin0)).keep Kq320 (ninS ne330 nin0))
                refine g_iload X320 hx hby at_168 (pc' := 170) rfl rfl ?_
                have hc170 : (0 : Int) = (0 : Int) := by decide
                refine g_ifYes X320 hx hby at_170 (pc' := 180) (teq (show (0 : Int32) = (0 : Int32) from Int32.toInt_inj.mp hc170)).1 (by decide) (by decide) ?_
                refine g_aload X320 hx hby at_180 (pc' := 182) rfl rfl rfl ?_
                refine g_aload X320 hx hby at_182 (pc' := 184) rfl rfl rfl ?_
                refine g_aconst_null X320 hx hby at_184 (pc' := 185) rfl  ?_
                refine g_aconst_null X320 hx hby at_185 (pc' := 186) rfl  ?_
                have f333 := f321.keep Kq320
                have ne334 : b306 ≠ b7_319 := Nat.ne_of_lt (Nat.lt_of_lt_of_le F318.lt sqb7_319)
                have f335 := (Fq17_319.keep Kq320 (ninS (Ne.symm ne334) nin0))
                have ne336 : b306 ≠ b1_320 := Nat.ne_of_lt (Nat.lt_of_lt_of_le f321.lt sqb1_320)
                have ne337 : b306 ≠ b2_320 := Nat.ne_of_lt (Nat.lt_of_lt_of_le f321.lt sqb2_320)
                have ne338 : b7_319 ≠ b1_320 := Nat.ne_of_lt (Nat.lt_of_lt_of_le Fq17_319.lt sqb1_320)
                have ne339 : b7_319 ≠ b2_320 := Nat.ne_of_lt (Nat.lt_of_lt_of_le Fq17_319.lt sqb2_320)
                have ne340 : b192 ≠ b1_320 := Nat.ne_of_lt (Nat.lt_of_lt_of_le ((fj138_0.ext E306).keep Kq319 (ninS ne330 nin0)).lt sqb1_320)
                have ne341 : b192 ≠ b2_320 := Nat.ne_of_lt (Nat.lt_of_lt_of_le ((fj138_0.ext E306).keep Kq319 (ninS ne330 nin0)).lt sqb2_320)
                refine Go.callV X320 hx hZ hown (wi hw 74 rfl) (wi hw 75 rfl) (notFace_of_selects (args := #[]) (mvT hZ (wi hw 77 rfl))) (wi hw 77 rfl) (wi hw 76 rfl) (wi hw 6 rfl) (wi hw 78 rfl) (by decide) e320 (a := b306) (argsL := [(.ref b192), .null, .null]) (rest := []) (W := 0) f333 (rm_compactA0 l Z a0 hw b306 b192 b1_320 b2_320 b7_319 (1 : Int32) b3_320 b4_320 b5_320 b6_320 (fun _ => (0 : Int64)) h320 n0 (Nat.le_trans (Nat.le_trans (Nat.le_trans zj138 E306.1) Kq319.1) Kq320.1) f333 Fq2_320 Fq3_320 Fq8_320 Fq9_320 Fq1_320 Fq10_320 Fq0_320 Fq4_320 Fq5_320 Fq6_320 Fq7_320 V328 V329 f335 f331 (Ne.symm ne336) (Ne.symm ne337) nqb1_b2_320 (Ne.symm ne334) ne338 ne339 ne330 ne340 ne341 g307 gqb1_320 gqb2_320) (hb hby at_186) (by rw [hml]; rfl) rfl pd9 rfl rfl (by decide) (by decide) (by decide) (by decide) ?_
                intro v332 T332 L332 X332 hQ332
                obtain ⟨h332, e332⟩ : ∃ z, T332.heap = z := ⟨_, rfl⟩
                rw [e332] at hQ332
                obtain ⟨rfl, Nq332, Kq332, Fq0_332, Fq1_332, Fq2_332, Fq3_332, Fq4_332, Fq5_332, Fq6_332, Fq7_332, Fq8_332, Fq9_332, Fq10_332, Fq11_332, Fq12_332⟩ := hQ332
                have N332 := Fr.app N320 Nq332
                refine Go.void (pc' := 189) rfl ?_
                have f342 := (f331.keep Kq332 (ninS ne330 (ninS ne340 (ninS ne341 nin0))))
                refine g_aload X332 hx hby at_189 (pc' := 191) rfl rfl rfl ?_
                refine g_iconst X332 hx hby at_191 (pc' := 192) rfl (z := (0 : Int32)) rfl ?_
                refine g_iconst X332 hx hby at_192 (pc' := 193) rfl (z := (0 : Int32)) rfl ?_
                refine Go.of (fun _ k => XS.dconst0 X332.here hx rfl (hb hby at_193) (v := FP.dconst0) rfl k) ?_
                show Go p.tables e below s _ _ _ (T332.setTop (mkF m 194 #[.val (.int p1), .val (.int p2), .val (.int p3), .val (.int (1 : Int32)), .val (.int (0 : Int32)), .val (.int (1 : Int32)), .val (.int av), .val (.int ra), .val (.ref b192), .val (.ref b196), .val (.int nv), .val (.int v206), .val (.ref b306), .val (.int (0 : Int32)), .unset] [(.double FP.dconst0), (.int (0 : Int32)), (.int (0 : Int32)), (.ref b306)]))
                refine g_iloadN X332 hx hby at_194 (pc' := 195) rfl rfl ?_
                have f344 := f333.keep Kq332
                have ne345 : b306 ≠ b5_320 := Nat.ne_of_lt (Nat.lt_of_lt_of_le f321.lt sqb5_320)
                have f346 := (Fq15_320.keep Kq332 (ninS (Ne.symm ne345) (ninS (Ne.symm nqb1_b5_320) (ninS (Ne.symm nqb2_b5_320) nin0))))
                have ne347 : b306 ≠ b6_320 := Nat.ne_of_lt (Nat.lt_of_lt_of_le f321.lt sqb6_320)
                have f348 := (Fq16_320.keep Kq332 (ninS (Ne.symm ne347) (ninS (Ne.symm nqb1_b6_320) (ninS (Ne.symm nqb2_b6_320) nin0))))
                refine Go.callV X332 hx hZ hown (wi hw 30 rfl) (wi hw 31 rfl) (notFace_of_selects (args := #[]) (mvT hZ (wi hw 33 rfl))) (wi hw 33 rfl) (wi hw 32 rfl) (wi hw 6 rfl) (wi hw 34 rfl) (by decide) e332 (a := b306) (argsL := [(.int (0 : Int32)), (.int (0 : Int32)), (.double FP.dconst0), (.int p3)]) (rest := []) (W := 0) f344 (rm_addB1 l Z a0 hw b306 (0 : Int32) (0 : Int32) FP.dconst0 p3 b1_320 b2_320 b3_320 b4_320 b5_320 b6_320 b7_319 (own_l [(0 : Int32), (0 : Int32), (0 : Int32), (0 : Int32)]) (own_l [(0 : Int32), (0 : Int32), (0 : Int32), (0 : Int32)]) (upD (fun _ => (0 : UInt64)) 0 FP.dconst0) (upI (fun _ => (0 : Int32)) 0 p3) (1 : Int32) (1 : Int32) (1 : Int64) 1 h332 n0 (Nat.le_trans (Nat.le_trans (Nat.le_trans (Nat.le_trans zj138 E306.1) Kq319.1) Kq320.1) Kq332.1) f344 Fq6_332 Fq4_332 Fq0_332 Fq1_332 Fq7_332 Fq8_332 Fq9_332 Fq10_332 Fq11_332 Fq12_332 f346 f348 Fq2_332 Fq3_332 Fq5_332 (Ne.symm ne336) (Ne.symm ne337) (Ne.symm ne345) (Ne.symm ne347) nqb1_b2_320 nqb1_b5_320 nqb1_b6_320 nqb2_b5_320 nqb2_b6_320 nqb5_b6_320 g307 gqb1_320 gqb2_320 gqb5_320 gqb6_320 rfl (by decide)) (hb hby at_195) (by rw [hml]; rfl) rfl pd8 rfl rfl (by decide) (by decide) (by decide) (by decide) ?_
                intro v343 T343 L343 X343 hQ343
                obtain ⟨h343, e343⟩ : ∃ z, T343.heap = z := ⟨_, rfl⟩
                rw [e343] at hQ343
                obtain ⟨rfl, Nq343, Kq343, Fq0_343, Fq1_343, Fq2_343, Fq3_343, Fq4_343, Fq5_343, Fq6_343, Fq7_343, Fq8_343, Fq9_343, Fq10_343, Fq11_343, Fq12_343, Fq13_343, Fq14_343⟩ := hQ343
                have N343 := Fr.app N332 Nq343
                have Fq8_343 : Fld Z h343 b306 kES "bound" "I" (.int (2 : Int32)) := Fq8_343
                have Fq9_343 : Fld Z h343 b306 kES "count" "I" (.int (2 : Int32)) := Fq9_343
                have Fq10_343 : Fld Z h343 b306 kES "nextNumber" "J" (.long (2 : Int64)) := Fq10_343
                refine Go.push (pc' := 198) rfl ?_
                refine g_pop X343 hx hby at_198 (pc' := 199) rfl rfl ?_
                have V349 : ArF Z h343 b1_320 .int 4 (fun i => .int ((own_l [(0 : Int32), (0 : Int32), (0 : Int32), (0 : Int32)]) i)) := Fq11_343.congr (fun i hi => congrArg Value.int ((by decide : ∀ i, i < 4 → (own_l [(0 : Int32), (0 : Int32), (0 : Int32), (0 : Int32)]) i = (upI (own_l [(0 : Int32), (0 : Int32), (0 : Int32), (0 : Int32)]) 1 (0 : Int32)) i) i hi))
                have V350 : ArF Z h343 b2_320 .int 4 (fun i => .int ((own_l [(0 : Int32), (0 : Int32), (0 : Int32), (0 : Int32)]) i)) := Fq12_343.congr (fun i hi => congrArg Value.int ((by decide : ∀ i, i < 4 → (own_l [(0 : Int32), (0 : Int32), (0 : Int32), (0 : Int32)]) i = (upI (own_l [(0 : Int32), (0 : Int32), (0 : Int32), (0 : Int32)]) 1 (0 : Int32)) i) i hi))
                have ne351 : b192 ≠ b6_320 := Nat.ne_of_lt (Nat.lt_of_lt_of_le ((fj138_0.ext E306).keep Kq319 (ninS ne330 nin0)).lt sqb6_320)
                have ne352 : b192 ≠ b5_320 := Nat.ne_of_lt (Nat.lt_of_lt_of_le ((fj138_0.ext E306).keep Kq319 (ninS ne330 nin0)).lt sqb5_320)
                have f353 := (f342.keep Kq343 (ninS ne330 (ninS ne340 (ninS ne341 (ninS ne352 (ninS ne351 nin0))))))
                refine g_aload X343 hx hby at_199 (pc' := 201) rfl rfl rfl ?_
                refine g_iconst X343 hx hby at_201 (pc' := 202) rfl (z := (0 : Int32)) rfl ?_
                refine g_iconst X343 hx hby at_202 (pc' := 203) rfl (z := (0 : Int32)) rfl ?_
                refine Go.of (fun _ k => XS.dconst0 X343.here hx rfl (hb hby at_203) (v := FP.dconst0) rfl k) ?_
                show Go p.tables e below s _ _ _ (T343.setTop (mkF m 204 #[.val (.int p1), .val (.int p2), .val (.int p3), .val (.int (1 : Int32)), .val (.int (0 : Int32)), .val (.int (1 : Int32)), .val (.int av), .val (.int ra), .val (.ref b192), .val (.ref b196), .val (.int nv), .val (.int v206), .val (.ref b306), .val (.int (0 : Int32)), .unset] [(.double FP.dconst0), (.int (0 : Int32)), (.int (0 : Int32)), (.ref b306)]))
                refine g_iloadN X343 hx hby at_204 (pc' := 205) rfl rfl ?_
                have f355 := f344.keep Kq343
                refine Go.callV X343 hx hZ hown (wi hw 30 rfl) (wi hw 31 rfl) (notFace_of_selects (args := #[]) (mvT hZ (wi hw 33 rfl))) (wi hw 33 rfl) (wi hw 32 rfl) (wi hw 6 rfl) (wi hw 34 rfl) (by decide) e343 (a := b306) (argsL := [(.int (0 : Int32)), (.int (0 : Int32)), (.double FP.dconst0), (.int p3)]) (rest := []) (W := 0) f355 (rm_addB1 l Z a0 hw b306 (0 : Int32) (0 : Int32) FP.dconst0 p3 b1_320 b2_320 b3_320 b4_320 b5_320 b6_320 b7_319 (own_l [(0 : Int32), (0 : Int32), (0 : Int32), (0 : Int32)]) (own_l [(0 : Int32), (0 : Int32), (0 : Int32), (0 : Int32)]) (upD (upD (fun _ => (0 : UInt64)) 0 FP.dconst0) 1 FP.dconst0) (upI (upI (fun _ => (0 : Int32)) 0 p3) 1 p3) (2 : Int32) (2 : Int32) (2 : Int64) 2 h343 n0 (Nat.le_trans (Nat.le_trans (Nat.le_trans (Nat.le_trans (Nat.le_trans zj138 E306.1) Kq319.1) Kq320.1) Kq332.1) Kq343.1) f355 Fq0_343 Fq1_343 Fq2_343 Fq3_343 Fq4_343 Fq5_343 Fq6_343 Fq7_343 V349 V350 Fq13_343 Fq14_343 Fq8_343 Fq9_343 Fq10_343 (Ne.symm ne336) (Ne.symm ne337) (Ne.symm ne345) (Ne.symm ne347) nqb1_b2_320 nqb1_b5_320 nqb1_b6_320 nqb2_b5_320 nqb2_b6_320 nqb5_b6_320 g307 gqb1_320 gqb2_320 gqb5_320 gqb6_320 rfl (by decide)) (hb hby at_205) (by rw [hml]; rfl) rfl pd8 rfl rfl (by decide) (by decide) (by decide) (by decide) ?_
                intro v354 T354 L354 X354 hQ354
                obtain ⟨h354, e354⟩ : ∃ z, T354.heap = z := ⟨_, rfl⟩
                rw [e354] at hQ354
                obtain ⟨rfl, Nq354, Kq354, Fq0_354, Fq1_354, Fq2_354, Fq3_354, Fq4_354, Fq5_354, Fq6_354, Fq7_354, Fq8_354, Fq9_354, Fq10_354, Fq11_354, Fq12_354, Fq13_354, Fq14_354⟩ := hQ354
                have N354 := Fr.app N343 Nq354
                have Fq8_354 : Fld Z h354 b306 kES "bound" "I" (.int (3 : Int32)) := Fq8_354
                have Fq9_354 : Fld Z h354 b306 kES "count" "I" (.int (3 : Int32)) := Fq9_354
                have Fq10_354 : Fld Z h354 b306 kES "nextNumber" "J" (.long (3 : Int64)) := Fq10_354
                refine Go.push (pc' := 208) rfl ?_
                refine g_istore X354 hx hby at_208 (pc' := 210) rfl (L' := #[.val (.int p1), .val (.int p2), .val (.int p3), .val (.int (1 : Int32)), .val (.int (0 : Int32)), .val (.int (1 : Int32)), .val (.int av), .val (.int ra), .val (.ref b192), .val (.ref b196), .val (.int nv), .val (.int v206), .val (.ref b306), .val (.int (0 : Int32)), .val (.int (2 : Int32))]) rfl ?_
                have V356 : ArF Z h354 b1_320 .int 4 (fun i => .int ((own_l [(0 : Int32), (0 : Int32), (0 : Int32), (0 : Int32)]) i)) := Fq11_354.congr (fun i hi => congrArg Value.int ((by decide : ∀ i, i < 4 → (own_l [(0 : Int32), (0 : Int32), (0 : Int32), (0 : Int32)]) i = (upI (own_l [(0 : Int32), (0 : Int32), (0 : Int32), (0 : Int32)]) 2 (0 : Int32)) i) i hi))
                have V357 : ArF Z h354 b2_320 .int 4 (fun i => .int ((own_l [(0 : Int32), (0 : Int32), (0 : Int32), (0 : Int32)]) i)) := Fq12_354.congr (fun i hi => congrArg Value.int ((by decide : ∀ i, i < 4 → (own_l [(0 : Int32), (0 : Int32), (0 : Int32), (0 : Int32)]) i = (upI (own_l [(0 : Int32), (0 : Int32), (0 : Int32), (0 : Int32)]) 2 (0 : Int32)) i) i hi))
                have f358 := (f353.keep Kq354 (ninS ne330 (ninS ne340 (ninS ne341 (ninS ne352 (ninS ne351 nin0))))))
                refine g_iload X354 hx hby at_210 (pc' := 212) rfl rfl ?_
                have hc212 : ¬ ((1 : Int) = (0 : Int)) := by decide
                refine g_ifNo X354 hx hby at_212 (pc' := 215) (feq (show ¬ ((1 : Int32) = (0 : Int32)) from fun q => hc212 (congrArg Int32.toInt q))).1 rfl ?_
                refine g_aload X354 hx hby at_215 (pc' := 217) rfl rfl rfl ?_
                refine g_iload X354 hx hby at_217 (pc' := 219) rfl rfl ?_
                have f360 := f355.keep Kq354
                refine Go.callV X354 hx hZ hown (wi hw 87 rfl) (wi hw 88 rfl) (notFace_of_selects (args := #[]) (mvT hZ (wi hw 90 rfl))) (wi hw 90 rfl) (wi hw 89 rfl) (wi hw 6 rfl) (wi hw 91 rfl) (by decide) e354 (a := b306) (argsL := [(.int (2 : Int32))]) (rest := []) (W := 0) f360 (rm_remove4 l Z a0 hw b306 (2 : Int32) b1_320 b2_320 (own_l [(0 : Int32), (0 : Int32), (0 : Int32), (0 : Int32)]) (own_l [(0 : Int32), (0 : Int32), (0 : Int32), (0 : Int32)]) (3 : Int32) (3 : Int32) 2 (1 : Int32) b3_320 b4_320 b5_320 b6_320 b7_319 (3 : Int64) h354 n0 (Nat.le_trans (Nat.le_trans (Nat.le_trans (Nat.le_trans (Nat.le_trans (Nat.le_trans zj138 E306.1) Kq319.1) Kq320.1) Kq332.1) Kq343.1) Kq354.1) f360 Fq2_354 Fq3_354 V356 V357 Fq8_354 Fq9_354 Fq0_354 Fq4_354 Fq5_354 Fq6_354 Fq7_354 Fq1_354 Fq10_354 (Ne.symm ne336) (Ne.symm ne337) nqb1_b2_320 g307 gqb1_320 gqb2_320 rfl (by decide)) (hb hby at_219) (by rw [hml]; rfl) rfl pd5 rfl rfl (by decide) (by decide) (by decide) (by decide) ?_
                intro v359 T359 L359 X359 hQ359
                obtain ⟨h359, e359⟩ : ∃ z, T359.heap = z := ⟨_, rfl⟩
                rw [e359] at hQ359
                obtain ⟨rfl, Nq359, Kq359, Fq0_359, Fq1_359, Fq2_359, Fq3_359, Fq4_359, Fq5_359, Fq6_359, Fq7_359, Fq8_359, Fq9_359, Fq10_359, Fq11_359, Fq12_359⟩ := hQ359
                have N359 := Fr.app N354 Nq359
                have z361 : n0 ≤ h359.size := (Nat.le_trans (Nat.le_trans (Nat.le_trans (Nat.le_trans (Nat.le_trans (Nat.le_trans (Nat.le_trans zj138 E306.1) Kq319.1) Kq320.1) Kq332.1) Kq343.1) Kq354.1) Kq359.1)
                have Fq5_359 : Fld Z h359 b306 kES "count" "I" (.int (2 : Int32)) := Fq5_359
                refine Go.void (pc' := 222) rfl ?_
                have V362 : ArF Z h359 b1_320 .int 4 (fun i => .int ((own_l [(0 : Int32), (0 : Int32), (-1 : Int32), (0 : Int32)]) i)) := Fq2_359.congr (fun i hi => congrArg Value.int ((by decide : ∀ i, i < 4 → (own_l [(0 : Int32), (0 : Int32), (-1 : Int32), (0 : Int32)]) i = (upI (own_l [(0 : Int32), (0 : Int32), (0 : Int32), (0 : Int32)]) 2 (-1 : Int32)) i) i hi))
                have V363 : ArF Z h359 b2_320 .int 4 (fun i => .int ((own_l [(0 : Int32), (0 : Int32), (-1 : Int32), (0 : Int32)]) i)) := Fq3_359.congr (fun i hi => congrArg Value.int ((by decide : ∀ i, i < 4 → (own_l [(0 : Int32), (0 : Int32), (-1 : Int32), (0 : Int32)]) i = (upI (own_l [(0 : Int32), (0 : Int32), (0 : Int32), (0 : Int32)]) 2 (-1 : Int32)) i) i hi))
                have f364 := (f358.keep Kq359 (ninS ne330 (ninS ne340 (ninS ne341 nin0))))
                refine g_aload X359 hx hby at_222 (pc' := 224) rfl rfl rfl ?_
                refine g_aload X359 hx hby at_224 (pc' := 226) rfl rfl rfl ?_
                refine g_aconst_null X359 hx hby at_226 (pc' := 227) rfl  ?_
                refine g_aconst_null X359 hx hby at_227 (pc' := 228) rfl  ?_
                have f366 := f360.keep Kq359
                have ne367 : b7_319 ≠ b6_320 := Nat.ne_of_lt (Nat.lt_of_lt_of_le Fq17_319.lt sqb6_320)
                have ne368 : b7_319 ≠ b5_320 := Nat.ne_of_lt (Nat.lt_of_lt_of_le Fq17_319.lt sqb5_320)
                have f369 := ((((f335.keep Kq332 (ninS (Ne.symm ne334) (ninS ne338 (ninS ne339 nin0)))).keep Kq343 (ninS (Ne.symm ne334) (ninS ne338 (ninS ne339 (ninS ne368 (ninS ne367 nin0)))))).keep Kq354 (ninS (Ne.symm ne334) (ninS ne338 (ninS ne339 (ninS ne368 (ninS ne367 nin0)))))).keep Kq359 (ninS (Ne.symm ne334) (ninS ne338 (ninS ne339 nin0))))
                refine Go.callV X359 hx hZ hown (wi hw 74 rfl) (wi hw 75 rfl) (notFace_of_selects (args := #[]) (mvT hZ (wi hw 77 rfl))) (wi hw 77 rfl) (wi hw 76 rfl) (wi hw 6 rfl) (wi hw 78 rfl) (by decide) e359 (a := b306) (argsL := [(.ref b192), .null, .null]) (rest := []) (W := 0) f366 (rm_compactB01 l Z a0 hw b306 b192 b1_320 b2_320 b7_319 (1 : Int32) b3_320 b4_320 b5_320 b6_320 (fun _ => (0 : Int64)) h359 n0 z361 f366 Fq0_359 Fq1_359 Fq4_359 Fq5_359 Fq11_359 Fq12_359 Fq6_359 Fq7_359 Fq8_359 Fq9_359 Fq10_359 V362 V363 f369 f364 (Ne.symm ne336) (Ne.symm ne337) nqb1_b2_320 (Ne.symm ne334) ne338 ne339 ne330 ne340 ne341 g307 gqb1_320 gqb2_320) (hb hby at_228) (by rw [hml]; rfl) rfl pd9 rfl rfl (by decide) (by decide) (by decide) (by decide) ?_
                intro v365 T365 L365 X365 hQ365
                obtain ⟨h365, e365⟩ : ∃ z, T365.heap = z := ⟨_, rfl⟩
                rw [e365] at hQ365
                obtain ⟨b1_365, rfl, Nq365, Kq365, gqb1_365, sqb1_365, Fq0_365, Fq1_365, Fq2_365, Fq3_365, Fq4_365, Fq5_365, Fq6_365, Fq7_365, Fq8_365, Fq9_365, Fq10_365, Fq11_365, Fq12_365, Fq13_365⟩ := hQ365
                have N365 := Fr.app N359 Nq365
                refine Go.void (pc' := 231) rfl ?_
                have f370 := (f364.keep Kq365 (ninS ne330 (ninS ne340 (ninS ne341 nin0))))
                have hA0 := hJ52
                rcases hA0 with hA | hA
                · have hA' := congrArg Int32.toInt hA
                  refine g_iload X365 hx hby at_231 (pc' := 233) rfl rfl ?_
                  have hc233 : av.toInt = (0 : Int) := hA'
                  refine g_ifYes X365 hx hby at_233 (pc' := 246) (teq (show av = (0 : Int32) from Int32.toInt_inj.mp hc233)).1 (by decide) (by decide) ?_
                  have ne371 : b306 ≠ b1_365 := Nat.ne_of_lt (Nat.lt_of_lt_of_le f366.lt sqb1_365)
                  have ne372 : b1_320 ≠ b1_365 := Nat.ne_of_lt (Nat.lt_of_lt_of_le V362.lt sqb1_365)
                  have ne373 : b2_320 ≠ b1_365 := Nat.ne_of_lt (Nat.lt_of_lt_of_le V363.lt sqb1_365)
                  have ne374 : b196 ≠ b306 := Nat.ne_of_lt (by rw [hb306]; exact fj138_1.lt)
                  have ne375 : b196 ≠ b1_320 := Nat.ne_of_lt (Nat.lt_of_lt_of_le ((fj138_1.ext E306).keep Kq319 (ninS ne374 nin0)).lt sqb1_320)
                  have ne376 : b196 ≠ b2_320 := Nat.ne_of_lt (Nat.lt_of_lt_of_le ((fj138_1.ext E306).keep Kq319 (ninS ne374 nin0)).lt sqb2_320)
                  have f377 := f366.keep Kq365
                  have ne378 : b196 ≠ b6_320 := Nat.ne_of_lt (Nat.lt_of_lt_of_le ((fj138_1.ext E306).keep Kq319 (ninS ne374 nin0)).lt sqb6_320)
                  have ne379 : b196 ≠ b5_320 := Nat.ne_of_lt (Nat.lt_of_lt_of_le ((fj138_1.ext E306).keep Kq319 (ninS ne374 nin0)).lt sqb5_320)
                  have f380 := ((((((((fj138_1.ext E306).keep Kq319 (ninS ne374 nin0)).keep Kq320 (ninS ne374 nin0)).keep Kq332 (ninS ne374 (ninS ne375 (ninS ne376 nin0)))).keep Kq343 (ninS ne374 (ninS ne375 (ninS ne376 (ninS ne379 (ninS ne378 nin0)))))).keep Kq354 (ninS ne374 (ninS ne375 (ninS ne376 (ninS ne379 (ninS ne378 nin0)))))).keep Kq359 (ninS ne374 (ninS ne375 (ninS ne376 nin0)))).keep Kq365 (ninS ne374 (ninS ne375 (ninS ne376 nin0))))
                  exact J246a0 (T365, _, h365, (1 : Int32), (0 : Int32), (2 : Int32), b306, b1_320, b2_320, b1_365) ⟨X365.more (by decide) (by decide), e365, N365, (Nat.le_trans z361 Kq365.1), f377, Fq0_365, Fq1_365, Fq2_365, Fq3_365, Fq4_365, Fq5_365, Fq11_365, Fq12_365, Fq13_365, f380, (show b1_320 ≠ b306 ∧ b2_320 ≠ b306 ∧ b1_320 ≠ b2_320 ∧ b1_365 ≠ b306 ∧ b1_365 ≠ b1_320 ∧ b1_365 ≠ b2_320 ∧ b196 ≠ b306 ∧ b196 ≠ b1_320 ∧ b196 ≠ b2_320 ∧ n0 ≤ b306 ∧ n0 ≤ b1_320 ∧ n0 ≤ b2_320 ∧ av = (0 : Int32) from ⟨(Ne.symm ne336), (Ne.symm ne337), nqb1_b2_320, (Ne.symm ne371), (Ne.symm ne372), (Ne.symm ne373), ne374, ne375, ne376, g307, gqb1_320, gqb2_320, hA⟩)⟩
                · have hA' := congrArg Int32.toInt hA
                  refine g_iload X365 hx hby at_231 (pc' := 233) rfl rfl ?_
                  have hc233 : ¬ (av.toInt = (0 : Int)) := by intro q; rw [hA'] at q; exact absurd q (by decide)
                  refine g_ifNo X365 hx hby at_233 (pc' := 236) (feq (show ¬ (av = (0 : Int32)) from fun q => hc233 (congrArg Int32.toInt q))).1 rfl ?_
                  refine g_aload X365 hx hby at_236 (pc' := 238) rfl rfl rfl ?_
                  refine g_iconst X365 hx hby at_238 (pc' := 239) rfl (z := (0 : Int32)) rfl ?_
                  refine g_iconst X365 hx hby at_239 (pc' := 240) rfl (z := (0 : Int32)) rfl ?_
                  refine Go.of (fun _ k => XS.dconst0 X365.here hx rfl (hb hby at_240) (v := FP.dconst0) rfl k) ?_
                  show Go p.tables e below s _ _ _ (T365.setTop (mkF m 241 #[.val (.int p1), .val (.int p2), .val (.int p3), .val (.int (1 : Int32)), .val (.int (0 : Int32)), .val (.int (1 : Int32)), .val (.int av), .val (.int ra), .val (.ref b192), .val (.ref b196), .val (.int nv), .val (.int v206), .val (.ref b306), .val (.int (0 : Int32)), .val (.int (2 : Int32))] [(.double FP.dconst0), (.int (0 : Int32)), (.int (0 : Int32)), (.ref b306)]))
                  refine g_iloadN X365 hx hby at_241 (pc' := 242) rfl rfl ?_
                  have f382 := f366.keep Kq365
                  have f383 := ((Fq13_354.keep Kq359 (ninS (Ne.symm ne345) (ninS (Ne.symm nqb1_b5_320) (ninS (Ne.symm nqb2_b5_320) nin0)))).keep Kq365 (ninS (Ne.symm ne345) (ninS (Ne.symm nqb1_b5_320) (ninS (Ne.symm nqb2_b5_320) nin0))))
                  have f384 := ((Fq14_354.keep Kq359 (ninS (Ne.symm ne347) (ninS (Ne.symm nqb1_b6_320) (ninS (Ne.symm nqb2_b6_320) nin0)))).keep Kq365 (ninS (Ne.symm ne347) (ninS (Ne.symm nqb1_b6_320) (ninS (Ne.symm nqb2_b6_320) nin0))))
                  refine Go.callV X365 hx hZ hown (wi hw 30 rfl) (wi hw 31 rfl) (notFace_of_selects (args := #[]) (mvT hZ (wi hw 33 rfl))) (wi hw 33 rfl) (wi hw 32 rfl) (wi hw 6 rfl) (wi hw 34 rfl) (by decide) e365 (a := b306) (argsL := [(.int (0 : Int32)), (.int (0 : Int32)), (.double FP.dconst0), (.int p3)]) (rest := []) (W := 0) f382 (rm_addB1 l Z a0 hw b306 (0 : Int32) (0 : Int32) FP.dconst0 p3 b1_320 b2_320 b3_320 b4_320 b5_320 b6_320 b1_365 (own_l [(0 : Int32), (0 : Int32), (-1 : Int32), (0 : Int32)]) (own_l [(0 : Int32), (0 : Int32), (-1 : Int32), (0 : Int32)]) (upD (upD (upD (fun _ => (0 : UInt64)) 0 FP.dconst0) 1 FP.dconst0) 2 FP.dconst0) (upI (upI (upI (fun _ => (0 : Int32)) 0 p3) 1 p3) 2 p3) (2 : Int32) (2 : Int32) (3 : Int64) 2 h365 n0 (Nat.le_trans z361 Kq365.1) f382 Fq6_365 Fq4_365 Fq0_365 Fq1_365 Fq7_365 Fq8_365 Fq9_365 Fq10_365 Fq11_365 Fq12_365 f383 f384 Fq2_365 Fq3_365 Fq5_365 (Ne.symm ne336) (Ne.symm ne337) (Ne.symm ne345) (Ne.symm ne347) nqb1_b2_320 nqb1_b5_320 nqb1_b6_320 nqb2_b5_320 nqb2_b6_320 nqb5_b6_320 g307 gqb1_320 gqb2_320 gqb5_320 gqb6_320 rfl (by decide)) (hb hby at_242) (by rw [hml]; rfl) rfl pd8 rfl rfl (by decide) (by decide) (by decide) (by decide) ?_
                  intro v381 T381 L381 X381 hQ381
                  obtain ⟨h381, e381⟩ : ∃ z, T381.heap = z := ⟨_, rfl⟩
                  rw [e381] at hQ381
                  obtain ⟨rfl, Nq381, Kq381, Fq0_381, Fq1_381, Fq2_381, Fq3_381, Fq4_381, Fq5_381, Fq6_381, Fq7_381, Fq8_381, Fq9_381, Fq10_381, Fq11_381, Fq12_381, Fq13_381, Fq14_381⟩ := hQ381
                  have N381 := Fr.app N365 Nq381
                  have Fq8_381 : Fld Z h381 b306 kES "bound" "I" (.int (3 : Int32)) := Fq8_381
                  have Fq9_381 : Fld Z h381 b306 kES "count" "I" (.int (3 : Int32)) := Fq9_381
                  have Fq10_381 : Fld Z h381 b306 kES "nextNumber" "J" (.long (4 : Int64)) := Fq10_381
                  refine Go.push (pc' := 245) rfl ?_
                  refine g_pop X381 hx hby at_245 (pc' := 246) rfl rfl ?_
                  have V385 : ArF Z h381 b1_320 .int 4 (fun i => .int ((own_l [(0 : Int32), (0 : Int32), (0 : Int32), (0 : Int32)]) i)) := Fq11_381.congr (fun i hi => congrArg Value.int ((by decide : ∀ i, i < 4 → (own_l [(0 : Int32), (0 : Int32), (0 : Int32), (0 : Int32)]) i = (upI (own_l [(0 : Int32), (0 : Int32), (-1 : Int32), (0 : Int32)]) 2 (0 : Int32)) i) i hi))
                  have V386 : ArF Z h381 b2_320 .int 4 (fun i => .int ((own_l [(0 : Int32), (0 : Int32), (0 : Int32), (0 : Int32)]) i)) := Fq12_381.congr (fun i hi => congrArg Value.int ((by decide : ∀ i, i < 4 → (own_l [(0 : Int32), (0 : Int32), (0 : Int32), (0 : Int32)]) i = (upI (own_l [(0 : Int32), (0 : Int32), (-1 : Int32), (0 : Int32)]) 2 (0 : Int32)) i) i hi))
                  have ne387 : b306 ≠ b1_365 := Nat.ne_of_lt (Nat.lt_of_lt_of_le f366.lt sqb1_365)
                  have ne388 : b1_320 ≠ b1_365 := Nat.ne_of_lt (Nat.lt_of_lt_of_le V362.lt sqb1_365)
                  have ne389 : b2_320 ≠ b1_365 := Nat.ne_of_lt (Nat.lt_of_lt_of_le V363.lt sqb1_365)
                  have ne390 : b196 ≠ b306 := Nat.ne_of_lt (by rw [hb306]; exact fj138_1.lt)
                  have ne391 : b196 ≠ b1_320 := Nat.ne_of_lt (Nat.lt_of_lt_of_le ((fj138_1.ext E306).keep Kq319 (ninS ne390 nin0)).lt sqb1_320)
                  have ne392 : b196 ≠ b2_320 := Nat.ne_of_lt (Nat.lt_of_lt_of_le ((fj138_1.ext E306).keep Kq319 (ninS ne390 nin0)).lt sqb2_320)
                  have f393 := f382.keep Kq381
                  have ne394 : b6_320 ≠ b1_365 := Nat.ne_of_lt (Nat.lt_of_lt_of_le (Fq14_354.keep Kq359 (ninS (Ne.symm ne347) (ninS (Ne.symm nqb1_b6_320) (ninS (Ne.symm nqb2_b6_320) nin0)))).lt sqb1_365)
                  have ne395 : b5_320 ≠ b1_365 := Nat.ne_of_lt (Nat.lt_of_lt_of_le (Fq13_354.keep Kq359 (ninS (Ne.symm ne345) (ninS (Ne.symm nqb1_b5_320) (ninS (Ne.symm nqb2_b5_320) nin0)))).lt sqb1_365)
                  have f396 := (Fq13_365.keep Kq381 (ninS (Ne.symm ne387) (ninS (Ne.symm ne388) (ninS (Ne.symm ne389) (ninS (Ne.symm ne395) (ninS (Ne.symm ne394) nin0))))))
                  have ne397 : b196 ≠ b6_320 := Nat.ne_of_lt (Nat.lt_of_lt_of_le ((fj138_1.ext E306).keep Kq319 (ninS ne390 nin0)).lt sqb6_320)
                  have ne398 : b196 ≠ b5_320 := Nat.ne_of_lt (Nat.lt_of_lt_of_le ((fj138_1.ext E306).keep Kq319 (ninS ne390 nin0)).lt sqb5_320)
                  have f399 := (((((((((fj138_1.ext E306).keep Kq319 (ninS ne390 nin0)).keep Kq320 (ninS ne390 nin0)).keep Kq332 (ninS ne390 (ninS ne391 (ninS ne392 nin0)))).keep Kq343 (ninS ne390 (ninS ne391 (ninS ne392 (ninS ne398 (ninS ne397 nin0)))))).keep Kq354 (ninS ne390 (ninS ne391 (ninS ne392 (ninS ne398 (ninS ne397 nin0)))))).keep Kq359 (ninS ne390 (ninS ne391 (ninS ne392 nin0)))).keep Kq365 (ninS ne390 (ninS ne391 (ninS ne392 nin0)))).keep Kq381 (ninS ne390 (ninS ne391 (ninS ne392 (ninS ne398 (ninS ne397 nin0))))))
                  exact J246a1 (T381, _, h381, (1 : Int32), (0 : Int32), (2 : Int32), b306, b1_320, b2_320, b1_365) ⟨X381.more (by decide) (by decide), e381, N381, (Nat.le_trans (Nat.le_trans z361 Kq365.1) Kq381.1), f393, Fq2_381, Fq3_381, Fq8_381, Fq9_381, Fq1_381, Fq10_381, V385, V386, f396, f399, (show b1_320 ≠ b306 ∧ b2_320 ≠ b306 ∧ b1_320 ≠ b2_320 ∧ b1_365 ≠ b306 ∧ b1_365 ≠ b1_320 ∧ b1_365 ≠ b2_320 ∧ b196 ≠ b306 ∧ b196 ≠ b1_320 ∧ b196 ≠ b2_320 ∧ n0 ≤ b306 ∧ n0 ≤ b1_320 ∧ n0 ≤ b2_320 ∧ av = (1 : Int32) from ⟨(Ne.symm ne336), (Ne.symm ne337), nqb1_b2_320, (Ne.symm ne387), (Ne.symm ne388), (Ne.symm ne389), ne390, ne391, ne392, g307, gqb1_320, gqb2_320, hA⟩)⟩
            intro J138
            refine g_iload X200 hx hby at_122 (pc' := 124) rfl rfl ?_
            by_cases hc124 : av.toInt = (0 : Int)
            · refine g_ifYes X200 hx hby at_124 (pc' := 138) (teq (show av = (0 : Int32) from Int32.toInt_inj.mp hc124)).1 (by decide) (by decide) ?_
              exact J138 (T200, _, h200, (2 : Int32), (own_lj [(0 : Int64), (1 : Int64), (0 : Int64), (0 : Int64)])) ⟨X200.more (by decide) (by decide), e200, (Fr.snoc X200 (Fr.snoc X199 (Fr.snoc X195 N0 g193) g197) g197), z201, V205, V202, (show (av = (0 : Int32) ∧ (2 : Int32) = (2 : Int32) ∧ (own_lj [(0 : Int64), (1 : Int64), (0 : Int64), (0 : Int64)]) = (own_lj [(0 : Int64), (1 : Int64), (0 : Int64), (0 : Int64)])) ∨ (av = (1 : Int32) ∧ (2 : Int32) = (3 : Int32) ∧ (own_lj [(0 : Int64), (1 : Int64), (0 : Int64), (0 : Int64)]) = (own_lj [(0 : Int64), (1 : Int64), (3 : Int64), (0 : Int64)])) from Or.inl ⟨Int32.toInt_inj.mp hc124, rfl, rfl⟩)⟩
            · refine g_ifNo X200 hx hby at_124 (pc' := 127) (feq (show ¬ (av = (0 : Int32)) from fun q => hc124 (congrArg Int32.toInt q))).1 rfl ?_
              refine g_aload X200 hx hby at_127 (pc' := 129) rfl rfl rfl ?_
              refine g_iload X200 hx hby at_129 (pc' := 131) rfl rfl ?_
              refine g_ldcL X200 hx hby hZ hown (wi hw 96 rfl) at_131 (pc' := 134) rfl ?_
              refine Go.lastore X200 hx hZ e200 V202 (k := 2) rfl (by decide) (hb hby at_134) (pc' := 135) rfl ?_
              intro T400 h400 X400 e400 W400 V400
              refine g_iinc X400 hx hby at_135 (pc' := 138) rfl rfl (L' := #[.val (.int p1), .val (.int p2), .val (.int p3), .val (.int kd), .val (.int (0 : Int32)), .val (.int (1 : Int32)), .val (.int av), .val (.int ra), .val (.ref b192), .val (.ref b196), .val (.int (3 : Int32)), .unset, .unset, .unset, .unset]) rfl ?_
              have V401 : ArF Z h400 b196 .long 4 (fun i => .long ((own_lj [(0 : Int64), (1 : Int64), (3 : Int64), (0 : Int64)]) i)) := V400.congr (fun i hi => congrArg Value.long ((by decide : ∀ i, i < 4 → (own_lj [(0 : Int64), (1 : Int64), (3 : Int64), (0 : Int64)]) i = (upJ (own_lj [(0 : Int64), (1 : Int64), (0 : Int64), (0 : Int64)]) 2 (3 : Int64)) i) i hi))
              have f402 := V205.other W400 ne203
              exact J138 (T400, _, h400, (3 : Int32), (own_lj [(0 : Int64), (1 : Int64), (3 : Int64), (0 : Int64)])) ⟨X400.more (by decide) (by decide), e400, (Fr.snoc X400 (Fr.snoc X200 (Fr.snoc X199 (Fr.snoc X195 N0 g193) g197) g197) g197), (Nat.le_trans z201 (Nat.le_of_eq (Wr.size W400).symm)), f402, V401, (show (av = (0 : Int32) ∧ (3 : Int32) = (2 : Int32) ∧ (own_lj [(0 : Int64), (1 : Int64), (3 : Int64), (0 : Int64)]) = (own_lj [(0 : Int64), (1 : Int64), (0 : Int64), (0 : Int64)])) ∨ (av = (1 : Int32) ∧ (3 : Int32) = (3 : Int32) ∧ (own_lj [(0 : Int64), (1 : Int64), (3 : Int64), (0 : Int64)]) = (own_lj [(0 : Int64), (1 : Int64), (3 : Int64), (0 : Int64)])) from Or.inr ⟨hJ52.resolve_left (fun q => hc124 (congrArg Int32.toInt q)), rfl, rfl⟩)⟩
          intro J66
          refine g_iloadN X0 hx hby at_52 (pc' := 53) rfl rfl ?_
          refine g_bipush X0 hx hby at_53 (pc' := 55) rfl (z := (16 : Int32)) rfl ?_
          refine g_iand X0 hx hby at_55 (pc' := 56) rfl rfl ?_
          by_cases hc56 : (p1 &&& (16 : Int32)).toInt = (0 : Int)
          · refine g_ifYes X0 hx hby at_56 (pc' := 63) (teq (show (p1 &&& (16 : Int32)) = (0 : Int32) from Int32.toInt_inj.mp hc56)).1 (by decide) (by decide) ?_
            refine g_iconst X0 hx hby at_63 (pc' := 64) rfl (z := (0 : Int32)) rfl ?_
            refine g_istore X0 hx hby at_64 (pc' := 66) rfl (L' := #[.val (.int p1), .val (.int p2), .val (.int p3), .val (.int kd), .val (.int (0 : Int32)), .val (.int (1 : Int32)), .val (.int av), .val (.int (0 : Int32)), .unset, .unset, .unset, .unset, .unset, .unset, .unset]) rfl ?_
            exact J66 ((0 : Int32)) (Or.inl rfl)
          · refine g_ifNo X0 hx hby at_56 (pc' := 59) (feq (show ¬ ((p1 &&& (16 : Int32)) = (0 : Int32)) from fun q => hc56 (congrArg Int32.toInt q))).1 rfl ?_
            refine g_iconst X0 hx hby at_59 (pc' := 60) rfl (z := (1 : Int32)) rfl ?_
            refine g_goto X0 hx hby at_60 (pc' := 64) (by decide) (by decide) ?_
            refine g_istore X0 hx hby at_64 (pc' := 66) rfl (L' := #[.val (.int p1), .val (.int p2), .val (.int p3), .val (.int kd), .val (.int (0 : Int32)), .val (.int (1 : Int32)), .val (.int av), .val (.int (1 : Int32)), .unset, .unset, .unset, .unset, .unset, .unset, .unset]) rfl ?_
            exact J66 ((1 : Int32)) (Or.inr rfl)
        intro J52
        refine g_iloadN X0 hx hby at_38 (pc' := 39) rfl rfl ?_
        refine g_bipush X0 hx hby at_39 (pc' := 41) rfl (z := (8 : Int32)) rfl ?_
        refine g_iand X0 hx hby at_41 (pc' := 42) rfl rfl ?_
        by_cases hc42 : (p1 &&& (8 : Int32)).toInt = (0 : Int)
        · refine g_ifYes X0 hx hby at_42 (pc' := 49) (teq (show (p1 &&& (8 : Int32)) = (0 : Int32) from Int32.toInt_inj.mp hc42)).1 (by decide) (by decide) ?_
          refine g_iconst X0 hx hby at_49 (pc' := 50) rfl (z := (0 : Int32)) rfl ?_
          refine g_istore X0 hx hby at_50 (pc' := 52) rfl (L' := #[.val (.int p1), .val (.int p2), .val (.int p3), .val (.int kd), .val (.int (0 : Int32)), .val (.int (1 : Int32)), .val (.int (0 : Int32)), .unset, .unset, .unset, .unset, .unset, .unset, .unset, .unset]) rfl ?_
          exact J52 ((0 : Int32)) (Or.inl rfl)
        · refine g_ifNo X0 hx hby at_42 (pc' := 45) (feq (show ¬ ((p1 &&& (8 : Int32)) = (0 : Int32)) from fun q => hc42 (congrArg Int32.toInt q))).1 rfl ?_
          refine g_iconst X0 hx hby at_45 (pc' := 46) rfl (z := (1 : Int32)) rfl ?_
          refine g_goto X0 hx hby at_46 (pc' := 50) (by decide) (by decide) ?_
          refine g_istore X0 hx hby at_50 (pc' := 52) rfl (L' := #[.val (.int p1), .val (.int p2), .val (.int p3), .val (.int kd), .val (.int (0 : Int32)), .val (.int (1 : Int32)), .val (.int (1 : Int32)), .unset, .unset, .unset, .unset, .unset, .unset, .unset, .unset]) rfl ?_
          exact J52 ((1 : Int32)) (Or.inr rfl)
    · refine g_ifNo X0 hx hby at_15 (pc' := 18) (feq (show ¬ ((p1 &&& (2 : Int32)) = (0 : Int32)) from fun q => hc15 (congrArg Int32.toInt q))).1 rfl ?_
      refine g_iconst X0 hx hby at_18 (pc' := 19) rfl (z := (1 : Int32)) rfl ?_
      refine g_goto X0 hx hby at_19 (pc' := 23) (by decide) (by decide) ?_
      refine g_istore X0 hx hby at_23 (pc' := 25) rfl (L' := #[.val (.int p1), .val (.int p2), .val (.int p3), .val (.int kd), .val (.int (1 : Int32)), .unset, .unset, .unset, .unset, .unset, .unset, .unset, .unset, .unset, .unset]) rfl ?_
      refine g_iloadN X0 hx hby at_25 (pc' := 26) rfl rfl ?_
      refine g_iconst X0 hx hby at_26 (pc' := 27) rfl (z := (4 : Int32)) rfl ?_
      refine g_iand X0 hx hby at_27 (pc' := 28) rfl rfl ?_
      by_cases hc28 : (p1 &&& (4 : Int32)).toInt = (0 : Int)
      · refine g_ifYes X0 hx hby at_28 (pc' := 35) (teq (show (p1 &&& (4 : Int32)) = (0 : Int32) from Int32.toInt_inj.mp hc28)).1 (by decide) (by decide) ?_
        refine g_iconst X0 hx hby at_35 (pc' := 36) rfl (z := (0 : Int32)) rfl ?_
        refine g_istore X0 hx hby at_36 (pc' := 38) rfl (L' := #[.val (.int p1), .val (.int p2), .val (.int p3), .val (.int kd), .val (.int (1 : Int32)), .val (.int (0 : Int32)), .unset, .unset, .unset, .unset, .unset, .unset, .unset, .unset, .unset]) rfl ?_
        refine Go.join (α := Int32) (P := fun x => (fun (av : Int32) => av = (0 : Int32) ∨ av = (1 : Int32)) x) (F := fun x => (fun (av : Int32) => T0.setTop (mkF m 52 #[.val (.int p1), .val (.int p2), .val (.int p3), .val (.int kd), .val (.int (1 : Int32)), .val (.int (0 : Int32)), .val (.int av), .unset, .unset, .unset, .unset, .unset, .unset, .unset, .unset] [])) x) ?_ ?_
        · rintro av hJ52
          show Go p.tables e below s _ _ _ (T0.setTop (mkF m 52 #[.val (.int p1), .val (.int p2), .val (.int p3), .val (.int kd), .val (.int (1 : Int32)), .val (.int (0 : Int32)), .val (.int av), .unset, .unset, .unset, .unset, .unset, .unset, .unset, .unset] []))
          refine Go.join (α := Int32) (P := fun x => (fun (ra : Int32) => ra = (0 : Int32) ∨ ra = (1 : Int32)) x) (F := fun x => (fun (ra : Int32) => T0.setTop (mkF m 66 #[.val (.int p1), .val (.int p2), .val (.int p3), .val (.int kd), .val (.int (1 : Int32)), .val (.int (0 : Int32)), .val (.int av), .val (.int ra), .unset, .unset, .unset, .unset, .unset, .unset, .unset] [])) x) ?_ ?_
          · rintro ra hJ66
            show Go p.tables e below s _ _ _ (T0.setTop (mkF m 66 #[.val (.int p1), .val (.int p2), .val (.int p3), .val (.int kd), .val (.int (1 : Int32)), .val (.int (0 : Int32)), .val (.int av), .val (.int ra), .unset, .unset, .unset, .unset, .unset, .unset, .unset] []))
            refine g_iconst X0 hx hby at_66 (pc' := 67) rfl (z := (1 : Int32)) rfl ?_
            refine Go.newarr X0 hx hZ (n := 1) (cap := 1) (ty := .int) rfl (wi hw 0 rfl) e0 (by decide) rfl (by decide) (by decide) (by decide) (by decide) (hb hby at_67) (pc' := 69) rfl ?_
            intro T403 h403 b403 X403 e403 E403 hb403 V403
            have g404 : n0 ≤ b403 := by rw [hb403]; exact Z0
            have V405 : ArF Z h403 b403 .int 1 (fun i => .int ((fun _ => (0 : Int32)) i)) := V403
            refine g_dup X403 hx hby at_69 (pc' := 70) rfl rfl ?_
            refine g_iconst X403 hx hby at_70 (pc' := 71) rfl (z := (0 : Int32)) rfl ?_
            refine g_iconst X403 hx hby at_71 (pc' := 72) rfl (z := (0 : Int32)) rfl ?_
            refine Go.iastore X403 hx hZ e403 V405 (k := 0) rfl (by decide) (hb hby at_72) (pc' := 73) rfl ?_
            intro T406 h406 X406 e406 W406 V406
            refine g_astore X406 hx hby at_73 (pc' := 75) rfl rfl (L' := #[.val (.int p1), .val (.int p2), .val (.int p3), .val (.int kd), .val (.int (1 : Int32)), .val (.int (0 : Int32)), .val (.int av), .val (.int ra), .val (.ref b403), .unset, .unset, .unset, .unset, .unset, .unset]) rfl ?_
            refine g_iconst X406 hx hby at_75 (pc' := 76) rfl (z := (4 : Int32)) rfl ?_
            refine Go.newarr X406 hx hZ (n := 4) (cap := 4) (ty := .long) rfl (wi hw 1 rfl) e406 (by decide) rfl (by decide) (by decide) (by decide) (by decide) (hb hby at_76) (pc' := 78) rfl ?_
            intro T407 h407 b407 X407 e407 E407 hb407 V407
            have g408 : n0 ≤ b407 := by rw [hb407]; exact (Nat.le_trans (Nat.le_trans Z0 E403.1) (Nat.le_of_eq (Wr.size W406).symm))
            have V409 : ArF Z h407 b407 .long 4 (fun i => .long ((fun _ => (0 : Int64)) i)) := V407
            refine g_astore X407 hx hby at_78 (pc' := 80) rfl rfl (L' := #[.val (.int p1), .val (.int p2), .val (.int p3), .val (.int kd), .val (.int (1 : Int32)), .val (.int (0 : Int32)), .val (.int av), .val (.int ra), .val (.ref b403), .val (.ref b407), .unset, .unset, .unset, .unset, .unset]) rfl ?_
            refine g_iconst X407 hx hby at_80 (pc' := 81) rfl (z := (0 : Int32)) rfl ?_
            refine g_istore X407 hx hby at_81 (pc' := 83) rfl (L' := #[.val (.int p1), .val (.int p2), .val (.int p3), .val (.int kd), .val (.int (1 : Int32)), .val (.int (0 : Int32)), .val (.int av), .val (.int ra), .val (.ref b403), .val (.ref b407), .val (.int (0 : Int32)), .unset, .unset, .unset, .unset]) rfl ?_
            refine g_iload X407 hx hby at_83 (pc' := 85) rfl rfl ?_
            have hc85 : ¬ ((1 : Int) = (0 : Int)) := by decide
            refine g_ifYes X407 hx hby at_85 (pc' := 97) (feq (show ¬ ((1 : Int32) = (0 : Int32)) from fun q => hc85 (congrArg Int32.toInt q))).2 (by decide) (by decide) ?_
            refine g_aload X407 hx hby at_97 (pc' := 99) rfl rfl rfl ?_
            refine g_iload X407 hx hby at_99 (pc' := 101) rfl rfl ?_
            refine Go.of (fun _ k => XS.lconst X407.here hx rfl (hb hby at_101) k) ?_
            show Go p.tables e below s _ _ _ (T407.setTop (mkF m 102 #[.val (.int p1), .val (.int p2), .val (.int p3), .val (.int kd), .val (.int (1 : Int32)), .val (.int (0 : Int32)), .val (.int av), .val (.int ra), .val (.ref b403), .val (.ref b407), .val (.int (0 : Int32)), .unset, .unset, .unset, .unset] [(.long (1 : Int64)), (.int (0 : Int32)), (.ref b407)]))
            refine Go.lastore X407 hx hZ e407 V409 (k := 0) rfl (by decide) (hb hby at_102) (pc' := 103) rfl ?_
            intro T410 h410 X410 e410 W410 V410
            refine g_iinc X410 hx hby at_103 (pc' := 106) rfl rfl (L' := #[.val (.int p1), .val (.int p2), .val (.int p3), .val (.int kd), .val (.int (1 : Int32)), .val (.int (0 : Int32)), .val (.int av), .val (.int ra), .val (.ref b403), .val (.ref b407), .val (.int (1 : Int32)), .unset, .unset, .unset, .unset]) rfl ?_
            refine g_iload X410 hx hby at_106 (pc' := 108) rfl rfl ?_
            have hc108 : (0 : Int) = (0 : Int) := by decide
            refine g_ifNo X410 hx hby at_108 (pc' := 111) (teq (show (0 : Int32) = (0 : Int32) from Int32.toInt_inj.mp hc108)).2 rfl ?_
            refine g_aload X410 hx hby at_111 (pc' := 113) rfl rfl rfl ?_
            refine g_iload X410 hx hby at_113 (pc' := 115) rfl rfl ?_
            refine g_ldcL X410 hx hby hZ hown (wi hw 2 rfl) at_115 (pc' := 118) rfl ?_
            refine Go.lastore X410 hx hZ e410 V410 (k := 1) rfl (by decide) (hb hby at_118) (pc' := 119) rfl ?_
            intro T411 h411 X411 e411 W411 V411
            have z412 : n0 ≤ h411.size := (Nat.le_trans (Nat.le_trans (Nat.le_trans (Nat.le_trans (Nat.le_trans Z0 E403.1) (Nat.le_of_eq (Wr.size W406).symm)) E407.1) (Nat.le_of_eq (Wr.size W410).symm)) (Nat.le_of_eq (Wr.size W411).symm))
            refine g_iinc X411 hx hby at_119 (pc' := 122) rfl rfl (L' := #[.val (.int p1), .val (.int p2), .val (.int p3), .val (.int kd), .val (.int (1 : Int32)), .val (.int (0 : Int32)), .val (.int av), .val (.int ra), .val (.ref b403), .val (.ref b407), .val (.int (2 : Int32)), .unset, .unset, .unset, .unset]) rfl ?_
            have V413 : ArF Z h411 b407 .long 4 (fun i => .long ((own_lj [(1 : Int64), (2 : Int64), (0 : Int64), (0 : Int64)]) i)) := V411.congr (fun i hi => congrArg Value.long ((by decide : ∀ i, i < 4 → (own_lj [(1 : Int64), (2 : Int64), (0 : Int64), (0 : Int64)]) i = (upJ (upJ (fun _ => (0 : Int64)) 0 (1 : Int64)) 1 (2 : Int64)) i) i hi))
            have ne414 : b403 ≠ b407 := Nat.ne_of_lt (by rw [hb407]; exact V406.lt)
            have f415 := (((V406.ext E407).other W410 ne414).other W411 ne414)
            have V416 : ArF Z h411 b403 .int 1 (fun i => .int ((own_l [(0 : Int32)]) i)) := f415.congr (fun i hi => congrArg Value.int ((by decide : ∀ i, i < 1 → (own_l [(0 : Int32)]) i = (upI (fun _ => (0 : Int32)) 0 (0 : Int32)) i) i hi))
            refine Go.join (α := State × (List Loc) × Heap × Int32 × (Nat → Int64)) (P := fun x => (fun (Tj138 : State) (Lj138 : List Loc) (hj138 : Heap) (nv : Int32) (gE : Nat → Int64) => Stand p l e room_1 s m #[(.int p1), (.int p2), (.int p3)] below meth c Tj138 Lj138 2 5 ∧ Tj138.heap = hj138 ∧ Fr n0 Lj138 ∧ n0 ≤ hj138.size ∧ ArF Z hj138 b403 .int 1 (fun i => .int ((own_l [(0 : Int32)]) i)) ∧ ArF Z hj138 b407 .long 4 (fun i => .long (gE i)) ∧ ((av = (0 : Int32) ∧ nv = (2 : Int32) ∧ gE = (own_lj [(1 : Int64), (2 : Int64), (0 : Int64), (0 : Int64)])) ∨ (av = (1 : Int32) ∧ nv = (3 : Int32) ∧ gE = (own_lj [(1 : Int64), (2 : Int64), (3 : Int64), (0 : Int64)])))) x.1 x.2.1 x.2.2.1 x.2.2.2.1 x.2.2.2.2) (F := fun x => (fun (Tj138 : State) (Lj138 : List Loc) (hj138 : Heap) (nv : Int32) (gE : Nat → Int64) => Tj138.setTop (mkF m 138 #[.val (.int p1), .val (.int p2), .val (.int p3), .val (.int kd), .val (.int (1 : Int32)), .val (.int (0 : Int32)), .val (.int av), .val (.int ra), .val (.ref b403), .val (.ref b407), .val (.int nv), .unset, .unset, .unset, .unset] [])) x.1 x.2.1 x.2.2.1 x.2.2.2.1 x.2.2.2.2) ?_ ?_
            · rintro ⟨Tj138, Lj138, hj138, nv, gE⟩ hP138
              obtain ⟨Xj138, ej138, Nj138, zj138, fj138_0, fj138_1, hJ138⟩ : Stand p l e room_1 s m #[(.int p1), (.int p2), (.int p3)] below meth c Tj138 Lj138 2 5 ∧ Tj138.heap = hj138 ∧ Fr n0 Lj138 ∧ n0 ≤ hj138.size ∧ ArF Z hj138 b403 .int 1 (fun i => .int ((own_l [(0 : Int32)]) i)) ∧ ArF Z hj138 b407 .long 4 (fun i => .long (gE i)) ∧ ((av = (0 : Int32) ∧ nv = (2 : Int32) ∧ gE = (own_lj [(1 : Int64), (2 : Int64), (0 : Int64), (0 : Int64)])) ∨ (av = (1 : Int32) ∧ nv = (3 : Int32) ∧ gE = (own_lj [(1 : Int64), (2 : Int64), (3 : Int64), (0 : Int64)]))) := hP138
              show Go p.tables e below s _ _ _ (Tj138.setTop (mkF m 138 #[.val (.int p1), .val (.int p2), .val (.int p3), .val (.int kd), .val (.int (1 : Int32)), .val (.int (0 : Int32)), .val (.int av), .val (.int ra), .val (.ref b403), .val (.ref b407), .val (.int nv), .unset, .unset, .unset, .unset] []))
              refine g_iloadN Xj138 hx hby at_138 (pc' := 139) rfl rfl ?_
              refine g_ldcI Xj138 hx hby hZ hown (wi hw 3 rfl) at_139 (pc' := 141) rfl ?_
              refine g_iand Xj138 hx hby at_141 (pc' := 142) rfl rfl ?_
              refine g_iload Xj138 hx hby at_142 (pc' := 144) rfl rfl ?_
              refine g_irem Xj138 hx hby at_144 (pc' := 145) rfl (by rcases hJ138 with ⟨_, rfl, _⟩ | ⟨_, rfl, _⟩ <;> decide) rfl ?_
              generalize hv417 : ((p2 &&& (2147483647 : Int32)) % nv) = v417
              refine g_istore Xj138 hx hby at_145 (pc' := 147) rfl (L' := #[.val (.int p1), .val (.int p2), .val (.int p3), .val (.int kd), .val (.int (1 : Int32)), .val (.int (0 : Int32)), .val (.int av), .val (.int ra), .val (.ref b403), .val (.ref b407), .val (.int nv), .val (.int v417), .unset, .unset, .unset]) rfl ?_
              refine Go.join (α := State × (List Loc) × Heap × Int32 × Int32 × Int32 × Addr × Addr × Addr × Addr) (P := fun x => (fun (Tj246a0 : State) (Lj246a0 : List Loc) (hj246a0 : Heap) (k3 : Int32) (r13 : Int32) (r14 : Int32) (oa : Addr) (xa : Addr) (xb : Addr) (xk : Addr) => Stand p l e room_1 s m #[(.int p1), (.int p2), (.int p3)] below meth c Tj246a0 Lj246a0 22 80 ∧ Tj246a0.heap = hj246a0 ∧ Fr n0 Lj246a0 ∧ n0 ≤ hj246a0.size ∧ Exa Z hj246a0 oa kES ∧ Fld Z hj246a0 oa kES "sources" "[I" (.ref xa) ∧ Fld Z hj246a0 oa kES "targets" "[I" (.ref xb) ∧ Fld Z hj246a0 oa kES "bound" "I" (.int (2 : Int32)) ∧ Fld Z hj246a0 oa kES "count" "I" (.int (2 : Int32)) ∧ Fld Z hj246a0 oa kES "keptNumbers" "[J" (.ref xk) ∧ Fld Z hj246a0 oa kES "nextNumber" "J" (.long (3 : Int64)) ∧ ArF Z hj246a0 xa .int 4 (fun i => .int ((own_l [(0 : Int32), (0 : Int32), (0 : Int32), (0 : Int32)]) i)) ∧ ArF Z hj246a0 xb .int 4 (fun i => .int ((own_l [(0 : Int32), (0 : Int32), (0 : Int32), (0 : Int32)]) i)) ∧ ArF Z hj246a0 xk .long 0 (fun i => .long ((fun _ => (0 : Int64)) i)) ∧ ArF Z hj246a0 b407 .long 4 (fun i => .long (gE i)) ∧ (xa ≠ oa ∧ xb ≠ oa ∧ xa ≠ xb ∧ xk ≠ oa ∧ xk ≠ xa ∧ xk ≠ xb ∧ b407 ≠ oa ∧ b407 ≠ xa ∧ b407 ≠ xb ∧ n0 ≤ oa ∧ n0 ≤ xa ∧ n0 ≤ xb ∧ av = (0 : Int32))) x.1 x.2.1 x.2.2.1 x.2.2.2.1 x.2.2.2.2.1 x.2.2.2.2.2.1 x.2.2.2.2.2.2.1 x.2.2.2.2.2.2.2.1 x.2.2.2.2.2.2.2.2.1 x.2.2.2.2.2.2.2.2.2) (F := fun x => (fun (Tj246a0 : State) (Lj246a0 : List Loc) (hj246a0 : Heap) (k3 : Int32) (r13 : Int32) (r14 : Int32) (oa : Addr) (xa : Addr) (xb : Addr) (xk : Addr) => Tj246a0.setTop (mkF m 246 #[.val (.int p1), .val (.int p2), .val (.int p3), .val (.int k3), .val (.int (1 : Int32)), .val (.int (0 : Int32)), .val (.int av), .val (.int ra), .val (.ref b403), .val (.ref b407), .val (.int nv), .val (.int v417), .val (.ref oa), .val (.int r13), .val (.int r14)] [])) x.1 x.2.1 x.2.2.1 x.2.2.2.1 x.2.2.2.2.1 x.2.2.2.2.2.1 x.2.2.2.2.2.2.1 x.2.2.2.2.2.2.2.1 x.2.2.2.2.2.2.2.2.1 x.2.2.2.2.2.2.2.2.2) ?_ ?_
              · rintro ⟨Tj246a0, Lj246a0, hj246a0, k3, r13, r14, oa, xa, xb, xk⟩ hP246a0
                obtain ⟨Xj246a0, ej246a0, Nj246a0, zj246a0, fj246a0_0, fj246a0_1, fj246a0_2, fj246a0_3, fj246a0_4, fj246a0_5, fj246a0_6, fj246a0_7, fj246a0_8, fj246a0_9, fj246a0_10, hJ246a0⟩ : Stand p l e room_1 s m #[(.int p1), (.int p2), (.int p3)] below meth c Tj246a0 Lj246a0 22 80 ∧ Tj246a0.heap = hj246a0 ∧ Fr n0 Lj246a0 ∧ n0 ≤ hj246a0.size ∧ Exa Z hj246a0 oa kES ∧ Fld Z hj246a0 oa kES "sources" "[I" (.ref xa) ∧ Fld Z hj246a0 oa kES "targets" "[I" (.ref xb) ∧ Fld Z hj246a0 oa kES "bound" "I" (.int (2 : Int32)) ∧ Fld Z hj246a0 oa kES "count" "I" (.int (2 : Int32)) ∧ Fld Z hj246a0 oa kES "keptNumbers" "[J" (.ref xk) ∧ Fld Z hj246a0 oa kES "nextNumber" "J" (.long (3 : Int64)) ∧ ArF Z hj246a0 xa .int 4 (fun i => .int ((own_l [(0 : Int32), (0 : Int32), (0 : Int32), (0 : Int32)]) i)) ∧ ArF Z hj246a0 xb .int 4 (fun i => .int ((own_l [(0 : Int32), (0 : Int32), (0 : Int32), (0 : Int32)]) i)) ∧ ArF Z hj246a0 xk .long 0 (fun i => .long ((fun _ => (0 : Int64)) i)) ∧ ArF Z hj246a0 b407 .long 4 (fun i => .long (gE i)) ∧ (xa ≠ oa ∧ xb ≠ oa ∧ xa ≠ xb ∧ xk ≠ oa ∧ xk ≠ xa ∧ xk ≠ xb ∧ b407 ≠ oa ∧ b407 ≠ xa ∧ b407 ≠ xb ∧ n0 ≤ oa ∧ n0 ≤ xa ∧ n0 ≤ xb ∧ av = (0 : Int32)) := hP246a0
                show Go p.tables e below s _ _ _ (Tj246a0.setTop (mkF m 246 #[.val (.int p1), .val (.int p2), .val (.int p3), .val (.int k3), .val (.int (1 : Int32)), .val (.int (0 : Int32)), .val (.int av), .val (.int ra), .val (.ref b403), .val (.ref b407), .val (.int nv), .val (.int v417), .val (.ref oa), .val (.int r13), .val (.int r14)] []))
                obtain ⟨nn0, nn1, nn2, nn3, nn4, nn5, nn6, nn7, nn8, gg0, gg1, gg2, hav⟩ := hJ246a0
                have hnv : nv = (2 : Int32) ∧ gE = (own_lj [(1 : Int64), (2 : Int64), (0 : Int64), (0 : Int64)]) := by
                  rcases hJ138 with ⟨hA, h1, h2⟩ | ⟨hA, h1, h2⟩
                  · exact ⟨h1, h2⟩
                  · rw [hav] at hA; exact absurd hA (by decide)
                obtain ⟨rfl, rfl⟩ := hnv
                refine Go.join (α := State × (List Loc) × Heap × Unit) (P := fun x => (fun (Tj257 : State) (Lj257 : List Loc) (hj257 : Heap) (uu : Unit) => Stand p l e room_1 s m #[(.int p1), (.int p2), (.int p3)] below meth c Tj257 Lj257 22 80 ∧ Tj257.heap = hj257 ∧ Fr n0 Lj257 ∧ n0 ≤ hj257.size ∧ Exa Z hj257 oa kES ∧ Fld Z hj257 oa kES "bound" "I" (.int (2 : Int32)) ∧ Fld Z hj257 oa kES "keptNumbers" "[J" (.ref xk) ∧ Fld Z hj257 oa kES "nextNumber" "J" (.long (3 : Int64)) ∧ ArF Z hj257 xk .long 0 (fun i => .long ((fun _ => (0 : Int64)) i)) ∧ ArF Z hj257 b407 .long 4 (fun i => .long ((own_lj [(1 : Int64), (2 : Int64), (0 : Int64), (0 : Int64)]) i)) ∧ (True)) x.1 x.2.1 x.2.2.1 x.2.2.2) (F := fun x => (fun (Tj257 : State) (Lj257 : List Loc) (hj257 : Heap) (uu : Unit) => Tj257.setTop (mkF m 257 #[.val (.int p1), .val (.int p2), .val (.int p3), .val (.int k3), .val (.int (1 : Int32)), .val (.int (0 : Int32)), .val (.int av), .val (.int ra), .val (.ref b403), .val (.ref b407), .val (.int (2 : Int32)), .val (.int v417), .val (.ref oa), .val (.int r13), .val (.int r14)] [])) x.1 x.2.1 x.2.2.1 x.2.2.2) ?_ ?_
                · rintro ⟨Tj257, Lj257, hj257, uu⟩ hP257
                  obtain ⟨Xj257, ej257, Nj257, zj257, fj257_0, fj257_1, fj257_2, fj257_3, fj257_4, fj257_5, hJ257⟩ : Stand p l e room_1 s m #[(.int p1), (.int p2), (.int p3)] below meth c Tj257 Lj257 22 80 ∧ Tj257.heap = hj257 ∧ Fr n0 Lj257 ∧ n0 ≤ hj257.size ∧ Exa Z hj257 oa kES ∧ Fld Z hj257 oa kES "bound" "I" (.int (2 : Int32)) ∧ Fld Z hj257 oa kES "keptNumbers" "[J" (.ref xk) ∧ Fld Z hj257 oa kES "nextNumber" "J" (.long (3 : Int64)) ∧ ArF Z hj257 xk .long 0 (fun i => .long ((fun _ => (0 : Int64)) i)) ∧ ArF Z hj257 b407 .long 4 (fun i => .long ((own_lj [(1 : Int64), (2 : Int64), (0 : Int64), (0 : Int64)]) i)) ∧ (True) := hP257
                  show Go p.tables e below s _ _ _ (Tj257.setTop (mkF m 257 #[.val (.int p1), .val (.int p2), .val (.int p3), .val (.int k3), .val (.int (1 : Int32)), .val (.int (0 : Int32)), .val (.int av), .val (.int ra), .val (.ref b403), .val (.ref b407), .val (.int (2 : Int32)), .val (.int v417), .val (.ref oa), .val (.int r13), .val (.int r14)] []))
                  have hv : v417 = (0 : Int32) ∨ v417 = (1 : Int32) := by
                    have : v417.toInt = 0 ∨ v417.toInt = 1 := by rw [← hv417]; have : (0 ≤ (p2 &&& (2147483647 : Int32)).toInt → ((p2 &&& (2147483647 : Int32)) % (2 : Int32)).toInt = (p2 &&& (2147483647 : Int32)).toInt % 2) ∧ ((p2 &&& (2147483647 : Int32)).toInt < 0 → ((p2 &&& (2147483647 : Int32)) % (2 : Int32)).toInt = -((-(p2 &&& (2147483647 : Int32)).toInt) % 2)) := c_irem _ _ 2 rfl; have : -2147483648 ≤ ((p2 &&& (2147483647 : Int32)) % (2 : Int32)).toInt ∧ ((p2 &&& (2147483647 : Int32)) % (2 : Int32)).toInt < 2147483648 := rng32 _; have : (p2 &&& (2147483647 : Int32)).toInt = p2.toInt % 2147483648 := c_mask _ _ 31 (by decide) (by decide); have : -2147483648 ≤ (p2 &&& (2147483647 : Int32)).toInt ∧ (p2 &&& (2147483647 : Int32)).toInt < 2147483648 := rng32 _; have : -2147483648 ≤ p2.toInt ∧ p2.toInt < 2147483648 := rng32 _; omega
                    rcases this with h | h
                    · exact Or.inl (Int32.toInt_inj.mp h)
                    · exact Or.inr ((Int32.toInt_inj.mp h))
                  clear hv417
                  rcases hv with rfl | rfl
                  · show Go p.tables e below s _ _ _ (Tj257.setTop (mkF m 257 #[.val (.int p1), .val (.int p2), .val (.int p3), .val (.int k3), .val (.int (1 : Int32)), .val (.int (0 : Int32)), .val (.int av), .val (.int ra), .val (.ref b403), .val (.ref b407), .val (.int (2 : Int32)), .val (.int (0 : Int32)), .val (.ref oa), .val (.int r13), .val (.int r14)] []))
                    refine g_aload Xj257 hx hby at_257 (pc' := 259) rfl rfl rfl ?_
                    refine g_iload Xj257 hx hby at_259 (pc' := 261) rfl rfl ?_
                    refine Go.callV Xj257 hx hZ hown (wi hw 82 rfl) (wi hw 83 rfl) (notFace_of_selects (args := #[]) (mvT hZ (wi hw 85 rfl))) (wi hw 85 rfl) (wi hw 84 rfl) (wi hw 6 rfl) (wi hw 86 rfl) (by decide) ej257 (a := oa) (argsL := [(.int (0 : Int32))]) (rest := []) (W := 0) fj257_0 (rm_numA l Z a0 hw oa (0 : Int32) xk (2 : Int32) (3 : Int64) 0 (fun _ => (0 : Int64)) hj257 n0 zj257 fj257_2 fj257_1 fj257_3 fj257_4 (by decide)) (hb hby at_261) (by rw [hml]; rfl) rfl pd6 rfl rfl (by decide) (by decide) (by decide) (by decide) ?_
                    intro v418 T418 L418 X418 hQ418
                    obtain ⟨rfl, Nq418, hh418⟩ := hQ418
                    have N418 := Fr.app Nj257 Nq418
                    show Go p.tables e below s _ _ _ (T418.setTop (mkF m 264 #[.val (.int p1), .val (.int p2), .val (.int p3), .val (.int k3), .val (.int (1 : Int32)), .val (.int (0 : Int32)), .val (.int av), .val (.int ra), .val (.ref b403), .val (.ref b407), .val (.int (2 : Int32)), .val (.int (0 : Int32)), .val (.ref oa), .val (.int r13), .val (.int r14)] [(.long (1 : Int64))]))
                    refine g_aload X418 hx hby at_264 (pc' := 266) rfl rfl rfl ?_
                    refine g_iload X418 hx hby at_266 (pc' := 268) rfl rfl ?_
                    refine Go.laload X418 hx hZ hh418 fj257_5 (k := 0) rfl (by decide) (v := (1 : Int64)) rfl (hb hby at_268) (pc' := 269) rfl ?_
                    refine g_lcmp X418 hx hby at_269 (pc' := 270) rfl  ?_
                    have hc270 : (1 : Int) = (1 : Int) := by decide
                    refine g_ifNo X418 hx hby at_270 (pc' := 273) (teq (show (lcmpW (1 : Int64) (1 : Int64)) = (0 : Int32) from (lw_eq (1 : Int64) (1 : Int64)).mpr (Int64.toInt_inj.mp hc270))).2 rfl ?_
                    refine g_iconst X418 hx hby at_273 (pc' := 274) rfl (z := (1 : Int32)) rfl ?_
                    refine g_goto X418 hx hby at_274 (pc' := 278) (by decide) (by decide) ?_
                    refine Go.retZ X418 hx hlk hret (by simp) (hb hby at_278) (by decide) (by decide) ?_
                    exact ⟨rfl, N418⟩
                  · show Go p.tables e below s _ _ _ (Tj257.setTop (mkF m 257 #[.val (.int p1), .val (.int p2), .val (.int p3), .val (.int k3), .val (.int (1 : Int32)), .val (.int (0 : Int32)), .val (.int av), .val (.int ra), .val (.ref b403), .val (.ref b407), .val (.int (2 : Int32)), .val (.int (1 : Int32)), .val (.ref oa), .val (.int r13), .val (.int r14)] []))
                    refine g_aload Xj257 hx hby at_257 (pc' := 259) rfl rfl rfl ?_
                    refine g_iload Xj257 hx hby at_259 (pc' := 261) rfl rfl ?_
                    refine Go.callV Xj257 hx hZ hown (wi hw 82 rfl) (wi hw 83 rfl) (notFace_of_selects (args := #[]) (mvT hZ (wi hw 85 rfl))) (wi hw 85 rfl) (wi hw 84 rfl) (wi hw 6 rfl) (wi hw 86 rfl) (by decide) ej257 (a := oa) (argsL := [(.int (1 : Int32))]) (rest := []) (W := 0) fj257_0 (rm_numA l Z a0 hw oa (1 : Int32) xk (2 : Int32) (3 : Int64) 0 (fun _ => (0 : Int64)) hj257 n0 zj257 fj257_2 fj257_1 fj257_3 fj257_4 (by decide)) (hb hby at_261) (by rw [hml]; rfl) rfl pd6 rfl rfl (by decide) (by decide) (by decide) (by decide) ?_
                    intro v419 T419 L419 X419 hQ419
                    obtain ⟨rfl, Nq419, hh419⟩ := hQ419
                    have N419 := Fr.app Nj257 Nq419
                    show Go p.tables e below s _ _ _ (T419.setTop (mkF m 264 #[.val (.int p1), .val (.int p2), .val (.int p3), .val (.int k3), .val (.int (1 : Int32)), .val (.int (0 : Int32)), .val (.int av), .val (.int ra), .val (.ref b403), .val (.ref b407), .val (.int (2 : Int32)), .val (.int (1 : Int32)), .val (.ref oa), .val (.int r13), .val (.int r14)] [(.long (2 : Int64))]))
                    refine g_aload X419 hx hby at_264 (pc' := 266) rfl rfl rfl ?_
                    refine g_iload X419 hx hby at_266 (pc' := 268) rfl rfl ?_
                    refine Go.laload X419 hx hZ hh419 fj257_5 (k := 1) rfl (by decide) (v := (2 : Int64)) rfl (hb hby at_268) (pc' := 269) rfl ?_
                    refine g_lcmp X419 hx hby at_269 (pc' := 270) rfl  ?_
                    have hc270 : (2 : Int) = (2 : Int) := by decide
                    refine g_ifNo X419 hx hby at_270 (pc' := 273) (teq (show (lcmpW (2 : Int64) (2 : Int64)) = (0 : Int32) from (lw_eq (2 : Int64) (2 : Int64)).mpr (Int64.toInt_inj.mp hc270))).2 rfl ?_
                    refine g_iconst X419 hx hby at_273 (pc' := 274) rfl (z := (1 : Int32)) rfl ?_
                    refine g_goto X419 hx hby at_274 (pc' := 278) (by decide) (by decide) ?_
                    refine Go.retZ X419 hx hlk hret (by simp) (hb hby at_278) (by decide) (by decide) ?_
                    exact ⟨rfl, N419⟩
                intro J257
                rcases hJ66 with rfl | rfl
                · show Go p.tables e below s _ _ _ (Tj246a0.setTop (mkF m 246 #[.val (.int p1), .val (.int p2), .val (.int p3), .val (.int k3), .val (.int (1 : Int32)), .val (.int (0 : Int32)), .val (.int av), .val (.int (0 : Int32)), .val (.ref b403), .val (.ref b407), .val (.int (2 : Int32)), .val (.int v417), .val (.ref oa), .val (.int r13), .val (.int r14)] []))
                  refine g_iload Xj246a0 hx hby at_246 (pc' := 248) rfl rfl ?_
                  have hc248 : (0 : Int) = (0 : Int) := by decide
                  refine g_ifYes Xj246a0 hx hby at_248 (pc' := 257) (teq (show (0 : Int32) = (0 : Int32) from Int32.toInt_inj.mp hc248)).1 (by decide) (by decide) ?_
                  exact J257 (Tj246a0, _, hj246a0, ()) ⟨Xj246a0.more (by decide) (by decide), ej246a0, Nj246a0, zj246a0, fj246a0_0, fj246a0_3, fj246a0_5, fj246a0_6, fj246a0_9, fj246a0_10, (show True from trivial)⟩
                · show Go p.tables e below s _ _ _ (Tj246a0.setTop (mkF m 246 #[.val (.int p1), .val (.int p2), .val (.int p3), .val (.int k3), .val (.int (1 : Int32)), .val (.int (0 : Int32)), .val (.int av), .val (.int (1 : Int32)), .val (.ref b403), .val (.ref b407), .val (.int (2 : Int32)), .val (.int v417), .val (.ref oa), .val (.int r13), .val (.int r14)] []))
                  refine g_iload Xj246a0 hx hby at_246 (pc' := 248) rfl rfl ?_
                  have hc248 : ¬ ((1 : Int) = (0 : Int)) := by decide
                  refine g_ifNo Xj246a0 hx hby at_248 (pc' := 251) (feq (show ¬ ((1 : Int32) = (0 : Int32)) from fun q => hc248 (congrArg Int32.toInt q))).1 rfl ?_
                  refine g_aload Xj246a0 hx hby at_251 (pc' := 253) rfl rfl rfl ?_
                  refine g_iconst Xj246a0 hx hby at_253 (pc' := 254) rfl (z := (0 : Int32)) rfl ?_
                  refine Go.callV Xj246a0 hx hZ hown (wi hw 87 rfl) (wi hw 88 rfl) (notFace_of_selects (args := #[]) (mvT hZ (wi hw 90 rfl))) (wi hw 90 rfl) (wi hw 89 rfl) (wi hw 6 rfl) (wi hw 91 rfl) (by decide) ej246a0 (a := oa) (argsL := [(.int (0 : Int32))]) (rest := []) (W := 0) fj246a0_0 (rm_remove4s l Z a0 hw oa (0 : Int32) xa xb (own_l [(0 : Int32), (0 : Int32), (0 : Int32), (0 : Int32)]) (own_l [(0 : Int32), (0 : Int32), (0 : Int32), (0 : Int32)]) (2 : Int32) (2 : Int32) 0 xk (3 : Int64) hj246a0 n0 zj246a0 fj246a0_0 fj246a0_1 fj246a0_2 fj246a0_7 fj246a0_8 fj246a0_3 fj246a0_4 fj246a0_5 fj246a0_6 nn0 nn1 nn2 gg0 gg1 gg2 rfl (by decide)) (hb hby at_254) (by rw [hml]; rfl) rfl pd5 rfl rfl (by decide) (by decide) (by decide) (by decide) ?_
                  intro v420 T420 L420 X420 hQ420
                  obtain ⟨h420, e420⟩ : ∃ z, T420.heap = z := ⟨_, rfl⟩
                  rw [e420] at hQ420
                  obtain ⟨rfl, Nq420, Kq420, Fq0_420, Fq1_420, Fq2_420, Fq3_420, Fq4_420, Fq5_420, Fq6_420, Fq7_420⟩ := hQ420
                  have N420 := Fr.app Nj246a0 Nq420
                  have Fq5_420 : Fld Z h420 oa kES "count" "I" (.int (1 : Int32)) := Fq5_420
                  refine Go.void (pc' := 257) rfl ?_
                  have f421 := fj246a0_0.keep Kq420
                  have f422 := (fj246a0_9.keep Kq420 (ninS nn3 (ninS nn4 (ninS nn5 nin0))))
                  have f423 := (fj246a0_10.keep Kq420 (ninS nn6 (ninS nn7 (ninS nn8 nin0))))
                  exact J257 (T420, _, h420, ()) ⟨X420.more (by decide) (by decide), e420, N420, (Nat.le_trans zj246a0 Kq420.1), f421, Fq4_420, Fq6_420, Fq7_420, f422, f423, (show True from trivial)⟩
              intro J246a0
              refine Go.join (α := State × (List Loc) × Heap × Int32 × Int32 × Int32 × Addr × Addr × Addr × Addr) (P := fun x => (fun (Tj246a1 : State) (Lj246a1 : List Loc) (hj246a1 : Heap) (k3 : Int32) (r13 : Int32) (r14 : Int32) (oa : Addr) (xa : Addr) (xb : Addr) (xk : Addr) => Stand p l e room_1 s m #[(.int p1), (.int p2), (.int p3)] below meth c Tj246a1 Lj246a1 22 80 ∧ Tj246a1.heap = hj246a1 ∧ Fr n0 Lj246a1 ∧ n0 ≤ hj246a1.size ∧ Exa Z hj246a1 oa kES ∧ Fld Z hj246a1 oa kES "sources" "[I" (.ref xa) ∧ Fld Z hj246a1 oa kES "targets" "[I" (.ref xb) ∧ Fld Z hj246a1 oa kES "bound" "I" (.int (3 : Int32)) ∧ Fld Z hj246a1 oa kES "count" "I" (.int (3 : Int32)) ∧ Fld Z hj246a1 oa kES "keptNumbers" "[J" (.ref xk) ∧ Fld Z hj246a1 oa kES "nextNumber" "J" (.long (4 : Int64)) ∧ ArF Z hj246a1 xa .int 4 (fun i => .int ((own_l [(0 : Int32), (0 : Int32), (0 : Int32), (0 : Int32)]) i)) ∧ ArF Z hj246a1 xb .int 4 (fun i => .int ((own_l [(0 : Int32), (0 : Int32), (0 : Int32), (0 : Int32)]) i)) ∧ ArF Z hj246a1 xk .long 0 (fun i => .long ((fun _ => (0 : Int64)) i)) ∧ ArF Z hj246a1 b407 .long 4 (fun i => .long (gE i)) ∧ (xa ≠ oa ∧ xb ≠ oa ∧ xa ≠ xb ∧ xk ≠ oa ∧ xk ≠ xa ∧ xk ≠ xb ∧ b407 ≠ oa ∧ b407 ≠ xa ∧ b407 ≠ xb ∧ n0 ≤ oa ∧ n0 ≤ xa ∧ n0 ≤ xb ∧ av = (1 : Int32))) x.1 x.2.1 x.2.2.1 x.2.2.2.1 x.2.2.2.2.1 x.2.2.2.2.2.1 x.2.2.2.2.2.2.1 x.2.2.2.2.2.2.2.1 x.2.2.2.2.2.2.2.2.1 x.2.2.2.2.2.2.2.2.2) (F := fun x => (fun (Tj246a1 : State) (Lj246a1 : List Loc) (hj246a1 : Heap) (k3 : Int32) (r13 : Int32) (r14 : Int32) (oa : Addr) (xa : Addr) (xb : Addr) (xk : Addr) => Tj246a1.setTop (mkF m 246 #[.val (.int p1), .val (.int p2), .val (.int p3), .val (.int k3), .val (.int (1 : Int32)), .val (.int (0 : Int32)), .val (.int av), .val (.int ra), .val (.ref b403), .val (.ref b407), .val (.int nv), .val (.int v417), .val (.ref oa), .val (.int r13), .val (.int r14)] [])) x.1 x.2.1 x.2.2.1 x.2.2.2.1 x.2.2.2.2.1 x.2.2.2.2.2.1 x.2.2.2.2.2.2.1 x.2.2.2.2.2.2.2.1 x.2.2.2.2.2.2.2.2.1 x.2.2.2.2.2.2.2.2.2) ?_ ?_
              · rintro ⟨Tj246a1, Lj246a1, hj246a1, k3, r13, r14, oa, xa, xb, xk⟩ hP246a1
                obtain ⟨Xj246a1, ej246a1, Nj246a1, zj246a1, fj246a1_0, fj246a1_1, fj246a1_2, fj246a1_3, fj246a1_4, fj246a1_5, fj246a1_6, fj246a1_7, fj246a1_8, fj246a1_9, fj246a1_10, hJ246a1⟩ : Stand p l e room_1 s m #[(.int p1), (.int p2), (.int p3)] below meth c Tj246a1 Lj246a1 22 80 ∧ Tj246a1.heap = hj246a1 ∧ Fr n0 Lj246a1 ∧ n0 ≤ hj246a1.size ∧ Exa Z hj246a1 oa kES ∧ Fld Z hj246a1 oa kES "sources" "[I" (.ref xa) ∧ Fld Z hj246a1 oa kES "targets" "[I" (.ref xb) ∧ Fld Z hj246a1 oa kES "bound" "I" (.int (3 : Int32)) ∧ Fld Z hj246a1 oa kES "count" "I" (.int (3 : Int32)) ∧ Fld Z hj246a1 oa kES "keptNumbers" "[J" (.ref xk) ∧ Fld Z hj246a1 oa kES "nextNumber" "J" (.long (4 : Int64)) ∧ ArF Z hj246a1 xa .int 4 (fun i => .int ((own_l [(0 : Int32), (0 : Int32), (0 : Int32), (0 : Int32)]) i)) ∧ ArF Z hj246a1 xb .int 4 (fun i => .int ((own_l [(0 : Int32), (0 : Int32), (0 : Int32), (0 : Int32)]) i)) ∧ ArF Z hj246a1 xk .long 0 (fun i => .long ((fun _ => (0 : Int64)) i)) ∧ ArF Z hj246a1 b407 .long 4 (fun i => .long (gE i)) ∧ (xa ≠ oa ∧ xb ≠ oa ∧ xa ≠ xb ∧ xk ≠ oa ∧ xk ≠ xa ∧ xk ≠ xb ∧ b407 ≠ oa ∧ b407 ≠ xa ∧ b407 ≠ xb ∧ n0 ≤ oa ∧ n0 ≤ xa ∧ n0 ≤ xb ∧ av = (1 : Int32)) := hP246a1
                show Go p.tables e below s _ _ _ (Tj246a1.setTop (mkF m 246 #[.val (.int p1), .val (.int p2), .val (.int p3), .val (.int k3), .val (.int (1 : Int32)), .val (.int (0 : Int32)), .val (.int av), .val (.int ra), .val (.ref b403), .val (.ref b407), .val (.int nv), .val (.int v417), .val (.ref oa), .val (.int r13), .val (.int r14)] []))
                obtain ⟨nn0, nn1, nn2, nn3, nn4, nn5, nn6, nn7, nn8, gg0, gg1, gg2, hav⟩ := hJ246a1
                have hnv : nv = (3 : Int32) ∧ gE = (own_lj [(1 : Int64), (2 : Int64), (3 : Int64), (0 : Int64)]) := by
                  rcases hJ138 with ⟨hA, h1, h2⟩ | ⟨hA, h1, h2⟩
                  · rw [hav] at hA; exact absurd hA (by decide)
                  · exact ⟨h1, h2⟩
                obtain ⟨rfl, rfl⟩ := hnv
                refine Go.join (α := State × (List Loc) × Heap × Unit) (P := fun x => (fun (Tj257 : State) (Lj257 : List Loc) (hj257 : Heap) (uu : Unit) => Stand p l e room_1 s m #[(.int p1), (.int p2), (.int p3)] below meth c Tj257 Lj257 22 80 ∧ Tj257.heap = hj257 ∧ Fr n0 Lj257 ∧ n0 ≤ hj257.size ∧ Exa Z hj257 oa kES ∧ Fld Z hj257 oa kES "bound" "I" (.int (3 : Int32)) ∧ Fld Z hj257 oa kES "keptNumbers" "[J" (.ref xk) ∧ Fld Z hj257 oa kES "nextNumber" "J" (.long (4 : Int64)) ∧ ArF Z hj257 xk .long 0 (fun i => .long ((fun _ => (0 : Int64)) i)) ∧ ArF Z hj257 b407 .long 4 (fun i => .long ((own_lj [(1 : Int64), (2 : Int64), (3 : Int64), (0 : Int64)]) i)) ∧ (True)) x.1 x.2.1 x.2.2.1 x.2.2.2) (F := fun x => (fun (Tj257 : State) (Lj257 : List Loc) (hj257 : Heap) (uu : Unit) => Tj257.setTop (mkF m 257 #[.val (.int p1), .val (.int p2), .val (.int p3), .val (.int k3), .val (.int (1 : Int32)), .val (.int (0 : Int32)), .val (.int av), .val (.int ra), .val (.ref b403), .val (.ref b407), .val (.int (3 : Int32)), .val (.int v417), .val (.ref oa), .val (.int r13), .val (.int r14)] [])) x.1 x.2.1 x.2.2.1 x.2.2.2) ?_ ?_
                · rintro ⟨Tj257, Lj257, hj257, uu⟩ hP257
                  obtain ⟨Xj257, ej257, Nj257, zj257, fj257_0, fj257_1, fj257_2, fj257_3, fj257_4, fj257_5, hJ257⟩ : Stand p l e room_1 s m #[(.int p1), (.int p2), (.int p3)] below meth c Tj257 Lj257 22 80 ∧ Tj257.heap = hj257 ∧ Fr n0 Lj257 ∧ n0 ≤ hj257.size ∧ Exa Z hj257 oa kES ∧ Fld Z hj257 oa kES "bound" "I" (.int (3 : Int32)) ∧ Fld Z hj257 oa kES "keptNumbers" "[J" (.ref xk) ∧ Fld Z hj257 oa kES "nextNumber" "J" (.long (4 : Int64)) ∧ ArF Z hj257 xk .long 0 (fun i => .long ((fun _ => (0 : Int64)) i)) ∧ ArF Z hj257 b407 .long 4 (fun i => .long ((own_lj [(1 : Int64), (2 : Int64), (3 : Int64), (0 : Int64)]) i)) ∧ (True) := hP257
                  show Go p.tables e below s _ _ _ (Tj257.setTop (mkF m 257 #[.val (.int p1), .val (.int p2), .val (.int p3), .val (.int k3), .val (.int (1 : Int32)), .val (.int (0 : Int32)), .val (.int av), .val (.int ra), .val (.ref b403), .val (.ref b407), .val (.int (3 : Int32)), .val (.int v417), .val (.ref oa), .val (.int r13), .val (.int r14)] []))
                  have hv : v417 = (0 : Int32) ∨ v417 = (1 : Int32) ∨ v417 = (2 : Int32) := by
                    have : v417.toInt = 0 ∨ v417.toInt = 1 ∨ v417.toInt = 2 := by rw [← hv417]; have : (0 ≤ (p2 &&& (2147483647 : Int32)).toInt → ((p2 &&& (2147483647 : Int32)) % (3 : Int32)).toInt = (p2 &&& (2147483647 : Int32)).toInt % 3) ∧ ((p2 &&& (2147483647 : Int32)).toInt < 0 → ((p2 &&& (2147483647 : Int32)) % (3 : Int32)).toInt = -((-(p2 &&& (2147483647 : Int32)).toInt) % 3)) := c_irem _ _ 3 rfl; have : -2147483648 ≤ ((p2 &&& (2147483647 : Int32)) % (3 : Int32)).toInt ∧ ((p2 &&& (2147483647 : Int32)) % (3 : Int32)).toInt < 2147483648 := rng32 _; have : (p2 &&& (2147483647 : Int32)).toInt = p2.toInt % 2147483648 := c_mask _ _ 31 (by decide) (by decide); have : -2147483648 ≤ (p2 &&& (2147483647 : Int32)).toInt ∧ (p2 &&& (2147483647 : Int32)).toInt < 2147483648 := rng32 _; have : -2147483648 ≤ p2.toInt ∧ p2.toInt < 2147483648 := rng32 _; omega
                    rcases this with h | h | h
                    · exact Or.inl (Int32.toInt_inj.mp h)
                    · exact Or.inr (Or.inl (Int32.toInt_inj.mp h))
                    · exact Or.inr (Or.inr ((Int32.toInt_inj.mp h)))
                  clear hv417
                  rcases hv with rfl | rfl | rfl
                  · show Go p.tables e below s _ _ _ (Tj257.setTop (mkF m 257 #[.val (.int p1), .val (.int p2), .val (.int p3), .val (.int k3), .val (.int (1 : Int32)), .val (.int (0 : Int32)), .val (.int av), .val (.int ra), .val (.ref b403), .val (.ref b407), .val (.int (3 : Int32)), .val (.int (0 : Int32)), .val (.ref oa), .val (.int r13), .val (.int r14)] []))
                    refine g_aload Xj257 hx hby at_257 (pc' := 259) rfl rfl rfl ?_
                    refine g_iload Xj257 hx hby at_259 (pc' := 261) rfl rfl ?_
                    refine Go.callV Xj257 hx hZ hown (wi hw 82 rfl) (wi hw 83 rfl) (notFace_of_selects (args := #[]) (mvT hZ (wi hw 85 rfl))) (wi hw 85 rfl) (wi hw 84 rfl) (wi hw 6 rfl) (wi hw 86 rfl) (by decide) ej257 (a := oa) (argsL := [(.int (0 : Int32))]) (rest := []) (W := 0) fj257_0 (rm_numA l Z a0 hw oa (0 : Int32) xk (3 : Int32) (4 : Int64) 0 (fun _ => (0 : Int64)) hj257 n0 zj257 fj257_2 fj257_1 fj257_3 fj257_4 (by decide)) (hb hby at_261) (by rw [hml]; rfl) rfl pd6 rfl rfl (by decide) (by decide) (by decide) (by decide) ?_
                    intro v424 T424 L424 X424 hQ424
                    obtain ⟨rfl, Nq424, hh424⟩ := hQ424
                    have N424 := Fr.app Nj257 Nq424
                    show Go p.tables e below s _ _ _ (T424.setTop (mkF m 264 #[.val (.int p1), .val (.int p2), .val (.int p3), .val (.int k3), .val (.int (1 : Int32)), .val (.int (0 : Int32)), .val (.int av), .val (.int ra), .val (.ref b403), .val (.ref b407), .val (.int (3 : Int32)), .val (.int (0 : Int32)), .val (.ref oa), .val (.int r13), .val (.int r14)] [(.long (1 : Int64))]))
                    refine g_aload X424 hx hby at_264 (pc' := 266) rfl rfl rfl ?_
                    refine g_iload X424 hx hby at_266 (pc' := 268) rfl rfl ?_
                    refine Go.laload X424 hx hZ hh424 fj257_5 (k := 0) rfl (by decide) (v := (1 : Int64)) rfl (hb hby at_268) (pc' := 269) rfl ?_
                    refine g_lcmp X424 hx hby at_269 (pc' := 270) rfl  ?_
                    have hc270 : (1 : Int) = (1 : Int) := by decide
                    refine g_ifNo X424 hx hby at_270 (pc' := 273) (teq (show (lcmpW (1 : Int64) (1 : Int64)) = (0 : Int32) from (lw_eq (1 : Int64) (1 : Int64)).mpr (Int64.toInt_inj.mp hc270))).2 rfl ?_
                    refine g_iconst X424 hx hby at_273 (pc' := 274) rfl (z := (1 : Int32)) rfl ?_
                    refine g_goto X424 hx hby at_274 (pc' := 278) (by decide) (by decide) ?_
                    refine Go.retZ X424 hx hlk hret (by simp) (hb hby at_278) (by decide) (by decide) ?_
                    exact ⟨rfl, N424⟩
                  · show Go p.tables e below s _ _ _ (Tj257.setTop (mkF m 257 #[.val (.int p1), .val (.int p2), .val (.int p3), .val (.int k3), .val (.int (1 : Int32)), .val (.int (0 : Int32)), .val (.int av), .val (.int ra), .val (.ref b403), .val (.ref b407), .val (.int (3 : Int32)), .val (.int (1 : Int32)), .val (.ref oa), .val (.int r13), .val (.int r14)] []))
                    refine g_aload Xj257 hx hby at_257 (pc' := 259) rfl rfl rfl ?_
                    refine g_iload Xj257 hx hby at_259 (pc' := 261) rfl rfl ?_
                    refine Go.callV Xj257 hx hZ hown (wi hw 82 rfl) (wi hw 83 rfl) (notFace_of_selects (args := #[]) (mvT hZ (wi hw 85 rfl))) (wi hw 85 rfl) (wi hw 84 rfl) (wi hw 6 rfl) (wi hw 86 rfl) (by decide) ej257 (a := oa) (argsL := [(.int (1 : Int32))]) (rest := []) (W := 0) fj257_0 (rm_numA l Z a0 hw oa (1 : Int32) xk (3 : Int32) (4 : Int64) 0 (fun _ => (0 : Int64)) hj257 n0 zj257 fj257_2 fj257_1 fj257_3 fj257_4 (by decide)) (hb hby at_261) (by rw [hml]; rfl) rfl pd6 rfl rfl (by decide) (by decide) (by decide) (by decide) ?_
                    intro v425 T425 L425 X425 hQ425
                    obtain ⟨rfl, Nq425, hh425⟩ := hQ425
                    have N425 := Fr.app Nj257 Nq425
                    show Go p.tables e below s _ _ _ (T425.setTop (mkF m 264 #[.val (.int p1), .val (.int p2), .val (.int p3), .val (.int k3), .val (.int (1 : Int32)), .val (.int (0 : Int32)), .val (.int av), .val (.int ra), .val (.ref b403), .val (.ref b407), .val (.int (3 : Int32)), .val (.int (1 : Int32)), .val (.ref oa), .val (.int r13), .val (.int r14)] [(.long (2 : Int64))]))
                    refine g_aload X425 hx hby at_264 (pc' := 266) rfl rfl rfl ?_
                    refine g_iload X425 hx hby at_266 (pc' := 268) rfl rfl ?_
                    refine Go.laload X425 hx hZ hh425 fj257_5 (k := 1) rfl (by decide) (v := (2 : Int64)) rfl (hb hby at_268) (pc' := 269) rfl ?_
                    refine g_lcmp X425 hx hby at_269 (pc' := 270) rfl  ?_
                    have hc270 : (2 : Int) = (2 : Int) := by decide
                    refine g_ifNo X425 hx hby at_270 (pc' := 273) (teq (show (lcmpW (2 : Int64) (2 : Int64)) = (0 : Int32) from (lw_eq (2 : Int64) (2 : Int64)).mpr (Int64.toInt_inj.mp hc270))).2 rfl ?_
                    refine g_iconst X425 hx hby at_273 (pc' := 274) rfl (z := (1 : Int32)) rfl ?_
                    refine g_goto X425 hx hby at_274 (pc' := 278) (by decide) (by decide) ?_
                    refine Go.retZ X425 hx hlk hret (by simp) (hb hby at_278) (by decide) (by decide) ?_
                    exact ⟨rfl, N425⟩
                  · show Go p.tables e below s _ _ _ (Tj257.setTop (mkF m 257 #[.val (.int p1), .val (.int p2), .val (.int p3), .val (.int k3), .val (.int (1 : Int32)), .val (.int (0 : Int32)), .val (.int av), .val (.int ra), .val (.ref b403), .val (.ref b407), .val (.int (3 : Int32)), .val (.int (2 : Int32)), .val (.ref oa), .val (.int r13), .val (.int r14)] []))
                    refine g_aload Xj257 hx hby at_257 (pc' := 259) rfl rfl rfl ?_
                    refine g_iload Xj257 hx hby at_259 (pc' := 261) rfl rfl ?_
                    refine Go.callV Xj257 hx hZ hown (wi hw 82 rfl) (wi hw 83 rfl) (notFace_of_selects (args := #[]) (mvT hZ (wi hw 85 rfl))) (wi hw 85 rfl) (wi hw 84 rfl) (wi hw 6 rfl) (wi hw 86 rfl) (by decide) ej257 (a := oa) (argsL := [(.int (2 : Int32))]) (rest := []) (W := 0) fj257_0 (rm_numA l Z a0 hw oa (2 : Int32) xk (3 : Int32) (4 : Int64) 0 (fun _ => (0 : Int64)) hj257 n0 zj257 fj257_2 fj257_1 fj257_3 fj257_4 (by decide)) (hb hby at_261) (by rw [hml]; rfl) rfl pd6 rfl rfl (by decide) (by decide) (by decide) (by decide) ?_
                    intro v426 T426 L426 X426 hQ426
                    obtain ⟨rfl, Nq426, hh426⟩ := hQ426
                    have N426 := Fr.app Nj257 Nq426
                    show Go p.tables e below s _ _ _ (T426.setTop (mkF m 264 #[.val (.int p1), .val (.int p2), .val (.int p3), .val (.int k3), .val (.int (1 : Int32)), .val (.int (0 : Int32)), .val (.int av), .val (.int ra), .val (.ref b403), .val (.ref b407), .val (.int (3 : Int32)), .val (.int (2 : Int32)), .val (.ref oa), .val (.int r13), .val (.int r14)] [(.long (3 : Int64))]))
                    refine g_aload X426 hx hby at_264 (pc' := 266) rfl rfl rfl ?_
                    refine g_iload X426 hx hby at_266 (pc' := 268) rfl rfl ?_
                    refine Go.laload X426 hx hZ hh426 fj257_5 (k := 2) rfl (by decide) (v := (3 : Int64)) rfl (hb hby at_268) (pc' := 269) rfl ?_
                    refine g_lcmp X426 hx hby at_269 (pc' := 270) rfl  ?_
                    have hc270 : (3 : Int) = (3 : Int) := by decide
                    refine g_ifNo X426 hx hby at_270 (pc' := 273) (teq (show (lcmpW (3 : Int64) (3 : Int64)) = (0 : Int32) from (lw_eq (3 : Int64) (3 : Int64)).mpr (Int64.toInt_inj.mp hc270))).2 rfl ?_
                    refine g_iconst X426 hx hby at_273 (pc' := 274) rfl (z := (1 : Int32)) rfl ?_
                    refine g_goto X426 hx hby at_274 (pc' := 278) (by decide) (by decide) ?_
                    refine Go.retZ X426 hx hlk hret (by simp) (hb hby at_278) (by decide) (by decide) ?_
                    exact ⟨rfl, N426⟩
                intro J257
                rcases hJ66 with rfl | rfl
                · show Go p.tables e below s _ _ _ (Tj246a1.setTop (mkF m 246 #[.val (.int p1), .val (.int p2), .val (.int p3), .val (.int k3), .val (.int (1 : Int32)), .val (.int (0 : Int32)), .val (.int av), .val (.int (0 : Int32)), .val (.ref b403), .val (.ref b407), .val (.int (3 : Int32)), .val (.int v417), .val (.ref oa), .val (.int r13), .val (.int r14)] []))
                  refine g_iload Xj246a1 hx hby at_246 (pc' := 248) rfl rfl ?_
                  have hc248 : (0 : Int) = (0 : Int) := by decide
                  refine g_ifYes Xj246a1 hx hby at_248 (pc' := 257) (teq (show (0 : Int32) = (0 : Int32) from Int32.toInt_inj.mp hc248)).1 (by decide) (by decide) ?_
                  exact J257 (Tj246a1, _, hj246a1, ()) ⟨Xj246a1.more (by decide) (by decide), ej246a1, Nj246a1, zj246a1, fj246a1_0, fj246a1_3, fj246a1_5, fj246a1_6, fj246a1_9, fj246a1_10, (show True from trivial)⟩
                · show Go p.tables e below s _ _ _ (Tj246a1.setTop (mkF m 246 #[.val (.int p1), .val (.int p2), .val (.int p3), .val (.int k3), .val (.int (1 : Int32)), .val (.int (0 : Int32)), .val (.int av), .val (.int (1 : Int32)), .val (.ref b403), .val (.ref b407), .val (.int (3 : Int32)), .val (.int v417), .val (.ref oa), .val (.int r13), .val (.int r14)] []))
                  refine g_iload Xj246a1 hx hby at_246 (pc' := 248) rfl rfl ?_
                  have hc248 : ¬ ((1 : Int) = (0 : Int)) := by decide
                  refine g_ifNo Xj246a1 hx hby at_248 (pc' := 251) (feq (show ¬ ((1 : Int32) = (0 : Int32)) from fun q => hc248 (congrArg Int32.toInt q))).1 rfl ?_
                  refine g_aload Xj246a1 hx hby at_251 (pc' := 253) rfl rfl rfl ?_
                  refine g_iconst Xj246a1 hx hby at_253 (pc' := 254) rfl (z := (0 : Int32)) rfl ?_
                  refine Go.callV Xj246a1 hx hZ hown (wi hw 87 rfl) (wi hw 88 rfl) (notFace_of_selects (args := #[]) (mvT hZ (wi hw 90 rfl))) (wi hw 90 rfl) (wi hw 89 rfl) (wi hw 6 rfl) (wi hw 91 rfl) (by decide) ej246a1 (a := oa) (argsL := [(.int (0 : Int32))]) (rest := []) (W := 0) fj246a1_0 (rm_remove4s l Z a0 hw oa (0 : Int32) xa xb (own_l [(0 : Int32), (0 : Int32), (0 : Int32), (0 : Int32)]) (own_l [(0 : Int32), (0 : Int32), (0 : Int32), (0 : Int32)]) (3 : Int32) (3 : Int32) 0 xk (4 : Int64) hj246a1 n0 zj246a1 fj246a1_0 fj246a1_1 fj246a1_2 fj246a1_7 fj246a1_8 fj246a1_3 fj246a1_4 fj246a1_5 fj246a1_6 nn0 nn1 nn2 gg0 gg1 gg2 rfl (by decide)) (hb hby at_254) (by rw [hml]; rfl) rfl pd5 rfl rfl (by decide) (by decide) (by decide) (by decide) ?_
                  intro v427 T427 L427 X427 hQ427
                  obtain ⟨h427, e427⟩ : ∃ z, T427.heap = z := ⟨_, rfl⟩
                  rw [e427] at hQ427
                  obtain ⟨rfl, Nq427, Kq427, Fq0_427, Fq1_427, Fq2_427, Fq3_427, Fq4_427, Fq5_427, Fq6_427, Fq7_427⟩ := hQ427
                  have N427 := Fr.app Nj246a1 Nq427
                  have Fq5_427 : Fld Z h427 oa kES "count" "I" (.int (2 : Int32)) := Fq5_427
                  refine Go.void (pc' := 257) rfl ?_
                  have f428 := fj246a1_0.keep Kq427
                  have f429 := (fj246a1_9.keep Kq427 (ninS nn3 (ninS nn4 (ninS nn5 nin0))))
                  have f430 := (fj246a1_10.keep Kq427 (ninS nn6 (ninS nn7 (ninS nn8 nin0))))
                  exact J257 (T427, _, h427, ()) ⟨X427.more (by decide) (by decide), e427, N427, (Nat.le_trans zj246a1 Kq427.1), f428, Fq4_427, Fq6_427, Fq7_427, f429, f430, (show True from trivial)⟩
              intro J246a1
              rcases hJ12 with rfl | rfl
              · show Go p.tables e below s _ _ _ (Tj138.setTop (mkF m 147 #[.val (.int p1), .val (.int p2), .val (.int p3), .val (.int (0 : Int32)), .val (.int (1 : Int32)), .val (.int (0 : Int32)), .val (.int av), .val (.int ra), .val (.ref b403), .val (.ref b407), .val (.int nv), .val (.int v417), .unset, .unset, .unset] []))
                refine g_new Xj138 hx hby hZ hown (wi hw 4 rfl) (wi hw 5 rfl) (wi hw 6 rfl) ej138 at_147 (pc' := 150) rfl (by decide) (by decide) ?_
                intro T431 h431 b431 X431 e431 E431 hb431 A431 D431
                have g432 : n0 ≤ b431 := by rw [hb431]; exact zj138
                have F433 : Fld Z h431 b431 "com/example/edgewise/edgewise/EdgeSlots" "sources" "[I" .null := D431 (Or.inl (wi hw 14 rfl)) (ty := (.array .int)) (by decide)
                have F434 : Fld Z h431 b431 "com/example/edgewise/edgewise/EdgeSlots" "targets" "[I" .null := D431 (Or.inl (wi hw 16 rfl)) (ty := (.array .int)) (by decide)
                have F435 : Fld Z h431 b431 "com/example/edgewise/edgewise/EdgeSlots" "sourcePositions" "[I" .null := D431 (Or.inl (wi hw 18 rfl)) (ty := (.array .int)) (by decide)
                have F436 : Fld Z h431 b431 "com/example/edgewise/edgewise/EdgeSlots" "targetPositions" "[I" .null := D431 (Or.inl (wi hw 20 rfl)) (ty := (.array .int)) (by decide)
                have F437 : Fld Z h431 b431 "com/example/edgewise/edgewise/EdgeSlots" "weights" "[D" .null := D431 (Or.inl (wi hw 23 rfl)) (ty := (.array .double)) (by decide)
                have F438 : Fld Z h431 b431 "com/example/edgewise/edgewise/EdgeSlots" "keys" "[I" .null := D431 (Or.inl (wi hw 25 rfl)) (ty := (.array .int)) (by decide)
                have F439 : Fld Z h431 b431 "com/example/edgewise/edgewise/EdgeSlots" "keptNumbers" "[J" .null := D431 (Or.inl (wi hw 27 rfl)) (ty := (.array .long)) (by decide)
                have F440 : Fld Z h431 b431 "com/example/edgewise/edgewise/EdgeSlots" "keyed" "Z" (.int (0 : Int32)) := D431 (Or.inr (wi hw 29 rfl)) (ty := .boolean) (by decide)
                have F441 : Fld Z h431 b431 "com/example/edgewise/edgewise/EdgeSlots" "bound" "I" (.int (0 : Int32)) := D431 (Or.inl (wi hw 36 rfl)) (ty := .int) (by decide)
                have F442 : Fld Z h431 b431 "com/example/edgewise/edgewise/EdgeSlots" "count" "I" (.int (0 : Int32)) := D431 (Or.inl (wi hw 71 rfl)) (ty := .int) (by decide)
                have F443 : Fld Z h431 b431 "com/example/edgewise/edgewise/EdgeSlots" "nextNumber" "J" (.long (0 : Int64)) := D431 (Or.inl (wi hw 73 rfl)) (ty := .long) (by decide)
                refine g_dup X431 hx hby at_150 (pc' := 151) rfl rfl ?_
                refine g_iloadN X431 hx hby at_151 (pc' := 152) rfl rfl ?_
                refine Go.callI X431 hx hZ hown rfl (wi hw 7 rfl) (wi hw 8 rfl) (wi hw 6 rfl) (wi hw 9 rfl) (by decide) e431 (a := b431) (argsL := [(.int (0 : Int32))]) (rest := [(.ref b431)]) (W := 1) (rm_init0 l Z a0 hw b431 h431 n0 (Nat.le_trans zj138 E431.1) A431 F433 F434 F435 F436 F437 F438 F439 F440 F441 F442 F443 g432) (hb hby at_152) (by rw [hml]; rfl) rfl pd7 rfl rfl (by decide) (by decide) (by decide) (by decide) ?_
                intro v444 T444 L444 X444 hQ444
                obtain ⟨h444, e444⟩ : ∃ z, T444.heap = z := ⟨_, rfl⟩
                rw [e444] at hQ444
                obtain ⟨b1_444, b2_444, b3_444, b4_444, b5_444, b6_444, b7_444, rfl, Nq444, Kq444, gqb1_444, sqb1_444, gqb2_444, sqb2_444, gqb3_444, sqb3_444, gqb4_444, sqb4_444, gqb5_444, sqb5_444, gqb6_444, sqb6_444, gqb7_444, sqb7_444, nqb1_b2_444, nqb1_b3_444, nqb1_b4_444, nqb1_b5_444, nqb1_b6_444, nqb1_b7_444, nqb2_b3_444, nqb2_b4_444, nqb2_b5_444, nqb2_b6_444, nqb2_b7_444, nqb3_b4_444, nqb3_b5_444, nqb3_b6_444, nqb3_b7_444, nqb4_b5_444, nqb4_b6_444, nqb4_b7_444, nqb5_b6_444, nqb5_b7_444, nqb6_b7_444, Fq0_444, Fq1_444, Fq2_444, Fq3_444, Fq4_444, Fq5_444, Fq6_444, Fq7_444, Fq8_444, Fq9_444, Fq10_444, Fq11_444, Fq12_444, Fq13_444, Fq14_444, Fq15_444, Fq16_444, Fq17_444⟩ := hQ444
                have N444 := Fr.app Nj138 Nq444
                refine Go.void (pc' := 155) rfl ?_
                refine g_astore X444 hx hby at_155 (pc' := 157) rfl rfl (L' := #[.val (.int p1), .val (.int p2), .val (.int p3), .val (.int (0 : Int32)), .val (.int (1 : Int32)), .val (.int (0 : Int32)), .val (.int av), .val (.int ra), .val (.ref b403), .val (.ref b407), .val (.int nv), .val (.int v417), .val (.ref b431), .unset, .unset]) rfl ?_
                refine g_aload X444 hx hby at_157 (pc' := 159) rfl rfl rfl ?_
                refine g_iconst X444 hx hby at_159 (pc' := 160) rfl (z := (0 : Int32)) rfl ?_
                refine g_iconst X444 hx hby at_160 (pc' := 161) rfl (z := (0 : Int32)) rfl ?_
                refine Go.of (fun _ k => XS.dconst0 X444.here hx rfl (hb hby at_161) (v := FP.dconst0) rfl k) ?_
                show Go p.tables e below s _ _ _ (T444.setTop (mkF m 162 #[.val (.int p1), .val (.int p2), .val (.int p3), .val (.int (0 : Int32)), .val (.int (1 : Int32)), .val (.int (0 : Int32)), .val (.int av), .val (.int ra), .val (.ref b403), .val (.ref b407), .val (.int nv), .val (.int v417), .val (.ref b431), .unset, .unset] [(.double FP.dconst0), (.int (0 : Int32)), (.int (0 : Int32)), (.ref b431)]))
                refine g_iloadN X444 hx hby at_162 (pc' := 163) rfl rfl ?_
                have f446 := A431.keep Kq444
                have ne447 : b431 ≠ b1_444 := Nat.ne_of_lt (Nat.lt_of_lt_of_le F443.lt sqb1_444)
                have ne448 : b431 ≠ b2_444 := Nat.ne_of_lt (Nat.lt_of_lt_of_le F443.lt sqb2_444)
                have ne449 : b431 ≠ b3_444 := Nat.ne_of_lt (Nat.lt_of_lt_of_le F443.lt sqb3_444)
                have ne450 : b431 ≠ b4_444 := Nat.ne_of_lt (Nat.lt_of_lt_of_le F443.lt sqb4_444)
                have ne451 : b431 ≠ b5_444 := Nat.ne_of_lt (Nat.lt_of_lt_of_le F443.lt sqb5_444)
                have ne452 : b431 ≠ b6_444 := Nat.ne_of_lt (Nat.lt_of_lt_of_le F443.lt sqb6_444)
                refine Go.callV X444 hx hZ hown (wi hw 30 rfl) (wi hw 31 rfl) (notFace_of_selects (args := #[]) (mvT hZ (wi hw 33 rfl))) (wi hw 33 rfl) (wi hw 32 rfl) (wi hw 6 rfl) (wi hw 34 rfl) (by decide) e444 (a := b431) (argsL := [(.int (0 : Int32)), (.int (0 : Int32)), (.double FP.dconst0), (.int p3)]) (rest := []) (W := 0) f446 (rm_addA0 l Z a0 hw b431 (0 : Int32) (0 : Int32) FP.dconst0 p3 b1_444 b2_444 b3_444 b4_444 b5_444 b6_444 b7_444 (fun _ => (0 : Int32)) (fun _ => (0 : Int32)) (fun _ => (0 : Int32)) (fun _ => (0 : Int32)) (fun _ => (0 : UInt64)) (fun _ => (0 : Int32)) (0 : Int32) (0 : Int64) h444 n0 (Nat.le_trans (Nat.le_trans zj138 E431.1) Kq444.1) f446 Fq7_444 Fq6_444 Fq0_444 Fq1_444 Fq2_444 Fq3_444 Fq4_444 Fq5_444 Fq11_444 Fq12_444 Fq13_444 Fq14_444 Fq15_444 Fq16_444 Fq8_444 Fq9_444 Fq10_444 (Ne.symm ne447) (Ne.symm ne448) (Ne.symm ne449) (Ne.symm ne450) (Ne.symm ne451) (Ne.symm ne452) g432) (hb hby at_163) (by rw [hml]; rfl) rfl pd8 rfl rfl (by decide) (by decide) (by decide) (by decide) ?_
                intro v445 T445 L445 X445 hQ445
                obtain ⟨h445, e445⟩ : ∃ z, T445.heap = z := ⟨_, rfl⟩
                rw [e445] at hQ445
                obtain ⟨b1_445, b2_445, b3_445, b4_445, b5_445, rfl, Nq445, Kq445, gqb1_445, sqb1_445, gqb2_445, sqb2_445, gqb3_445, sqb3_445, gqb4_445, sqb4_445, gqb5_445, sqb5_445, nqb1_b2_445, nqb1_b3_445, nqb1_b4_445, nqb1_b5_445, nqb2_b3_445, nqb2_b4_445, nqb2_b5_445, nqb3_b4_445, nqb3_b5_445, nqb4_b5_445, Fq0_445, Fq1_445, Fq2_445, Fq3_445, Fq4_445, Fq5_445, Fq6_445, Fq7_445, Fq8_445, Fq9_445, Fq10_445, Fq11_445, Fq12_445, Fq13_445, Fq14_445, Fq15_445⟩ := hQ445
                have N445 := Fr.app N444 Nq445
                have Fq9_445 : Fld Z h445 b431 kES "count" "I" (.int (1 : Int32)) := Fq9_445
                have Fq10_445 : Fld Z h445 b431 kES "nextNumber" "J" (.long (1 : Int64)) := Fq10_445
                refine Go.push (pc' := 166) rfl ?_
                refine g_istore X445 hx hby at_166 (pc' := 168) rfl (L' := #[.val (.int p1), .val (.int p2), .val (.int p3), .val (.int (0 : Int32)), .val (.int (1 : Int32)), .val (.int (0 : Int32)), .val (.int av), .val (.int ra), .val (.ref b403), .val (.ref b407), .val (.int nv), .val (.int v417), .val (.ref b431), .val (.int (0 : Int32)), .unset]) rfl ?_
                have V453 : ArF Z h445 b1_445 .int 4 (fun i => .int ((own_l [(0 : Int32), (0 : Int32), (0 : Int32), (0 : Int32)]) i)) := Fq11_445.congr (fun i hi => congrArg Value.int ((by decide : ∀ i, i < 4 → (own_l [(0 : Int32), (0 : Int32), (0 : Int32), (0 : Int32)]) i = (upI (fun _ => (0 : Int32)) 0 (0 : Int32)) i) i hi))
                have V454 : ArF Z h445 b2_445 .int 4 (fun i => .int ((own_l [(0 : Int32), (0 : Int32), (0 : Int32), (0 : Int32)]) i)) := Fq12_445.congr (fun i hi => congrArg Value.int ((by decide : ∀ i, i < 4 → (own_l [(0 : Int32), (0 : Int32), (0 : Int32), (0 : Int32)]) i = (upI (fun _ => (0 : Int32)) 0 (0 : Int32)) i) i hi))
                have ne455 : b403 ≠ b431 := Nat.ne_of_lt (by rw [hb431]; exact fj138_0.lt)
                have f456 := (((fj138_0.ext E431).keep Kq444 (ninS ne455 nin0)).keep Kq445 (ninS ne455 nin0))
                refine g_iload X445 hx hby at_168 (pc' := 170) rfl rfl ?_
                have hc170 : ¬ ((1 : Int) = (0 : Int)) := by decide
                refine g_ifNo X445 hx hby at_170 (pc' := 173) (feq (show ¬ ((1 : Int32) = (0 : Int32)) from fun q => hc170 (congrArg Int32.toInt q))).1 rfl ?_
                refine g_aload X445 hx hby at_173 (pc' := 175) rfl rfl rfl ?_
                refine g_iload X445 hx hby at_175 (pc' := 177) rfl rfl ?_
                have f458 := f446.keep Kq445
                have ne459 : b431 ≠ b1_445 := Nat.ne_of_lt (Nat.lt_of_lt_of_le f446.lt sqb1_445)
                have ne460 : b431 ≠ b2_445 := Nat.ne_of_lt (Nat.lt_of_lt_of_le f446.lt sqb2_445)
                refine Go.callV X445 hx hZ hown (wi hw 87 rfl) (wi hw 88 rfl) (notFace_of_selects (args := #[]) (mvT hZ (wi hw 90 rfl))) (wi hw 90 rfl) (wi hw 89 rfl) (wi hw 6 rfl) (wi hw 91 rfl) (by decide) e445 (a := b431) (argsL := [(.int (0 : Int32))]) (rest := []) (W := 0) f458 (rm_remove4 l Z a0 hw b431 (0 : Int32) b1_445 b2_445 (own_l [(0 : Int32), (0 : Int32), (0 : Int32), (0 : Int32)]) (own_l [(0 : Int32), (0 : Int32), (0 : Int32), (0 : Int32)]) (1 : Int32) (1 : Int32) 0 (0 : Int32) b3_445 b4_445 b5_445 b6_444 b7_444 (1 : Int64) h445 n0 (Nat.le_trans (Nat.le_trans (Nat.le_trans zj138 E431.1) Kq444.1) Kq445.1) f458 Fq2_445 Fq3_445 V453 V454 Fq8_445 Fq9_445 Fq0_445 Fq4_445 Fq5_445 Fq6_445 Fq7_445 Fq1_445 Fq10_445 (Ne.symm ne459) (Ne.symm ne460) nqb1_b2_445 g432 gqb1_445 gqb2_445 rfl (by decide)) (hb hby at_177) (by rw [hml]; rfl) rfl pd5 rfl rfl (by decide) (by decide) (by decide) (by decide) ?_
                intro v457 T457 L457 X457 hQ457
                obtain ⟨h457, e457⟩ : ∃ z, T457.heap = z := ⟨_, rfl⟩
                rw [e457] at hQ457
                obtain ⟨rfl, Nq457, Kq457, Fq0_457, Fq1_457, Fq2_457, Fq3_457, Fq4_457, Fq5_457, Fq6_457, Fq7_457, Fq8_457, Fq9_457, Fq10_457, Fq11_457, Fq12_457⟩ := hQ457
                have N457 := Fr.app N445 Nq457
                have Fq5_457 : Fld Z h457 b431 kES "count" "I" (.int (0 : Int32)) := Fq5_457
                refine Go.void (pc' := 180) rfl ?_
                have V461 : ArF Z h457 b1_445 .int 4 (fun i => .int ((own_l [(-1 : Int32), (0 : Int32), (0 : Int32), (0 : Int32)]) i)) := Fq2_457.congr (fun i hi => congrArg Value.int ((by decide : ∀ i, i < 4 → (own_l [(-1 : Int32), (0 : Int32), (0 : Int32), (0 : Int32)]) i = (upI (own_l [(0 : Int32), (0 : Int32), (0 : Int32), (0 : Int32)]) 0 (-1 : Int32)) i) i hi))
                have V462 : ArF Z h457 b2_445 .int 4 (fun i => .int ((own_l [(-1 : Int32), (0 : Int32), (0 : Int32), (0 : Int32)]) i)) := Fq3_457.congr (fun i hi => congrArg Value.int ((by decide : ∀ i, i < 4 → (own_l [(-1 : Int32), (0 : Int32), (0 : Int32), (0 : Int32)]) i = (upI (own_l [(0 : Int32), (0 : Int32), (0 : Int32), (0 : Int32)]) 0 (-1 : Int32)) i) i hi))
                have ne463 : b403 ≠ b2_445 := Nat.ne_of_lt (Nat.lt_of_lt_of_le ((fj138_0.ext E431).keep Kq444 (ninS ne455 nin0)).lt sqb2_445)
                have ne464 : b403 ≠ b1_445 := Nat.ne_of_lt (Nat.lt_of_lt_of_le ((fj138_0.ext E431).keep Kq444 (ninS ne455 nin0)).lt sqb1_445)
                have f465 := (f456.keep Kq457 (ninS ne455 (ninS ne464 (ninS ne463 nin0))))
                refine g_aload X457 hx hby at_180 (pc' := 182) rfl rfl rfl ?_
                refine g_aload X457 hx hby at_182 (pc' := 184) rfl rfl rfl ?_
                refine g_aconst_null X457 hx hby at_184 (pc' := 185) rfl  ?_
                refine g_aconst_null X457 hx hby at_185 (pc' := 186) rfl  ?_
                have f467 := f458.keep Kq457
                have ne468 : b431 ≠ b7_444 := Nat.ne_of_lt (Nat.lt_of_lt_of_le F443.lt sqb7_444)
                have ne469 : b7_444 ≠ b2_445 := Nat.ne_of_lt (Nat.lt_of_lt_of_le Fq17_444.lt sqb2_445)
                have ne470 : b7_444 ≠ b1_445 := Nat.ne_of_lt (Nat.lt_of_lt_of_le Fq17_444.lt sqb1_445)
                have f471 := ((Fq17_444.keep Kq445 (ninS (Ne.symm ne468) nin0)).keep Kq457 (ninS (Ne.symm ne468) (ninS ne470 (ninS ne469 nin0))))
                refine Go.callV X457 hx hZ hown (wi hw 74 rfl) (wi hw 75 rfl) (notFace_of_selects (args := #[]) (mvT hZ (wi hw 77 rfl))) (wi hw 77 rfl) (wi hw 76 rfl) (wi hw 6 rfl) (wi hw 78 rfl) (by decide) e457 (a := b431) (argsL := [(.ref b403), .null, .null]) (rest := []) (W := 0) f467 (rm_compactA1 l Z a0 hw b431 b403 b1_445 b2_445 b7_444 (0 : Int32) b3_445 b4_445 b5_445 b6_444 (fun _ => (0 : Int64)) h457 n0 (Nat.le_trans (Nat.le_trans (Nat.le_trans (Nat.le_trans zj138 E431.1) Kq444.1) Kq445.1) Kq457.1) f467 Fq0_457 Fq1_457 Fq4_457 Fq5_457 Fq11_457 Fq12_457 Fq6_457 Fq7_457 Fq8_457 Fq9_457 Fq10_457 V461 V462 f471 f465 (Ne.symm ne459) (Ne.symm ne460) nqb1_b2_445 (Ne.symm ne468) ne470 ne469 ne455 ne464 ne463 g432 gqb1_445 gqb2_445) (hb hby at_186) (by rw [hml]; rfl) rfl pd9 rfl rfl (by decide) (by decide) (by decide) (by decide) ?_
                intro v466 T466 L466 X466 hQ466
                obtain ⟨h466, e466⟩ : ∃ z, T466.heap = z := ⟨_, rfl⟩
                rw [e466] at hQ466
                obtain ⟨b1_466, rfl, Nq466, Kq466, gqb1_466, sqb1_466, Fq0_466, Fq1_466, Fq2_466, Fq3_466, Fq4_466, Fq5_466, Fq6_466, Fq7_466, Fq8_466, Fq9_466, Fq10_466, Fq11_466, Fq12_466, Fq13_466⟩ := hQ466
                have N466 := Fr.app N457 Nq466
                refine Go.void (pc' := 189) rfl ?_
                have f472 := (f465.keep Kq466 (ninS ne455 (ninS ne464 (ninS ne463 nin0))))
                refine g_aload X466 hx hby at_189 (pc' := 191) rfl rfl rfl ?_
                refine g_iconst X466 hx hby at_191 (pc' := 192) rfl (z := (0 : Int32)) rfl ?_
                refine g_iconst X466 hx hby at_192 (pc' := 193) rfl (z := (0 : Int32)) rfl ?_
                refine Go.of (fun _ k => XS.dconst0 X466.here hx rfl (hb hby at_193) (v := FP.dconst0) rfl k) ?_
                show Go p.tables e below s _ _ _ (T466.setTop (mkF m 194 #[.val (.int p1), .val (.int p2), .val (.int p3), .val (.int (0 : Int32)), .val (.int (1 : Int32)), .val (.int (0 : Int32)), .val (.int av), .val (.int ra), .val (.ref b403), .val (.ref b407), .val (.int nv), .val (.int v417), .val (.ref b431), .val (.int (0 : Int32)), .unset] [(.double FP.dconst0), (.int (0 : Int32)), (.int (0 : Int32)), (.ref b431)]))
                refine g_iloadN X466 hx hby at_194 (pc' := 195) rfl rfl ?_
                have f474 := f467.keep Kq466
                have ne475 : b431 ≠ b5_445 := Nat.ne_of_lt (Nat.lt_of_lt_of_le f446.lt sqb5_445)
                have f476 := ((Fq15_445.keep Kq457 (ninS (Ne.symm ne475) (ninS (Ne.symm nqb1_b5_445) (ninS (Ne.symm nqb2_b5_445) nin0)))).keep Kq466 (ninS (Ne.symm ne475) (ninS (Ne.symm nqb1_b5_445) (ninS (Ne.symm nqb2_b5_445) nin0))))
                refine Go.callV X466 hx hZ hown (wi hw 30 rfl) (wi hw 31 rfl) (notFace_of_selects (args := #[]) (mvT hZ (wi hw 33 rfl))) (wi hw 33 rfl) (wi hw 32 rfl) (wi hw 6 rfl) (wi hw 34 rfl) (by decide) e466 (a := b431) (argsL := [(.int (0 : Int32)), (.int (0 : Int32)), (.double FP.dconst0), (.int p3)]) (rest := []) (W := 0) f474 (rm_addB0 l Z a0 hw b431 (0 : Int32) (0 : Int32) FP.dconst0 p3 b1_445 b2_445 b3_445 b4_445 b5_445 b6_444 b1_466 (own_l [(-1 : Int32), (0 : Int32), (0 : Int32), (0 : Int32)]) (own_l [(-1 : Int32), (0 : Int32), (0 : Int32), (0 : Int32)]) (upD (fun _ => (0 : UInt64)) 0 FP.dconst0) (0 : Int32) (0 : Int32) (1 : Int64) 0 h466 n0 (Nat.le_trans (Nat.le_trans (Nat.le_trans (Nat.le_trans (Nat.le_trans zj138 E431.1) Kq444.1) Kq445.1) Kq457.1) Kq466.1) f474 Fq6_466 Fq4_466 Fq0_466 Fq1_466 Fq7_466 Fq8_466 Fq9_466 Fq10_466 Fq11_466 Fq12_466 f476 Fq2_466 Fq3_466 Fq5_466 (Ne.symm ne459) (Ne.symm ne460) (Ne.symm ne475) nqb1_b2_445 nqb1_b5_445 nqb2_b5_445 g432 gqb1_445 gqb2_445 gqb5_445 rfl (by decide)) (hb hby at_195) (by rw [hml]; rfl) rfl pd8 rfl rfl (by decide) (by decide) (by decide) (by decide) ?_
                intro v473 T473 L473 X473 hQ473
                obtain ⟨h473, e473⟩ : ∃ z, T473.heap = z := ⟨_, rfl⟩
                rw [e473] at hQ473
                obtain ⟨rfl, Nq473, Kq473, Fq0_473, Fq1_473, Fq2_473, Fq3_473, Fq4_473, Fq5_473, Fq6_473, Fq7_473, Fq8_473, Fq9_473, Fq10_473, Fq11_473, Fq12_473, Fq13_473⟩ := hQ473
                have N473 := Fr.app N466 Nq473
                have Fq8_473 : Fld Z h473 b431 kES "bound" "I" (.int (1 : Int32)) := Fq8_473
                have Fq9_473 : Fld Z h473 b431 kES "count" "I" (.int (1 : Int32)) := Fq9_473
                have Fq10_473 : Fld Z h473 b431 kES "nextNumber" "J" (.long (2 : Int64)) := Fq10_473
                refine Go.push (pc' := 198) rfl ?_
                refine g_pop X473 hx hby at_198 (pc' := 199) rfl rfl ?_
                have V477 : ArF Z h473 b1_445 .int 4 (fun i => .int ((own_l [(0 : Int32), (0 : Int32), (0 : Int32), (0 : Int32)]) i)) := Fq11_473.congr (fun i hi => congrArg Value.int ((by decide : ∀ i, i < 4 → (own_l [(0 : Int32), (0 : Int32), (0 : Int32), (0 : Int32)]) i = (upI (own_l [(-1 : Int32), (0 : Int32), (0 : Int32), (0 : Int32)]) 0 (0 : Int32)) i) i hi))
                have V478 : ArF Z h473 b2_445 .int 4 (fun i => .int ((own_l [(0 : Int32), (0 : Int32), (0 : Int32), (0 : Int32)]) i)) := Fq12_473.congr (fun i hi => congrArg Value.int ((by decide : ∀ i, i < 4 → (own_l [(0 : Int32), (0 : Int32), (0 : Int32), (0 : Int32)]) i = (upI (own_l [(-1 : Int32), (0 : Int32), (0 : Int32), (0 : Int32)]) 0 (0 : Int32)) i) i hi))
                have ne479 : b403 ≠ b5_445 := Nat.ne_of_lt (Nat.lt_of_lt_of_le ((fj138_0.ext E431).keep Kq444 (ninS ne455 nin0)).lt sqb5_445)
                have f480 := (f472.keep Kq473 (ninS ne455 (ninS ne464 (ninS ne463 (ninS ne479 nin0)))))
                refine g_aload X473 hx hby at_199 (pc' := 201) rfl rfl rfl ?_
                refine g_iconst X473 hx hby at_201 (pc' := 202) rfl (z := (0 : Int32)) rfl ?_
                refine g_iconst X473 hx hby at_202 (pc' := 203) rfl (z := (0 : Int32)) rfl ?_
                refine Go.of (fun _ k => XS.dconst0 X473.here hx rfl (hb hby at_203) (v := FP.dconst0) rfl k) ?_
                show Go p.tables e below s _ _ _ (T473.setTop (mkF m 204 #[.val (.int p1), .val (.int p2), .val (.int p3), .val (.int (0 : Int32)), .val (.int (1 : Int32)), .val (.int (0 : Int32)), .val (.int av), .val (.int ra), .val (.ref b403), .val (.ref b407), .val (.int nv), .val (.int v417), .val (.ref b431), .val (.int (0 : Int32)), .unset] [(.double FP.dconst0), (.int (0 : Int32)), (.int (0 : Int32)), (.ref b431)]))
                refine g_iloadN X473 hx hby at_204 (pc' := 205) rfl rfl ?_
                have f482 := f474.keep Kq473
                refine Go.callV X473 hx hZ hown (wi hw 30 rfl) (wi hw 31 rfl) (notFace_of_selects (args := #[]) (mvT hZ (wi hw 33 rfl))) (wi hw 33 rfl) (wi hw 32 rfl) (wi hw 6 rfl) (wi hw 34 rfl) (by decide) e473 (a := b431) (argsL := [(.int (0 : Int32)), (.int (0 : Int32)), (.double FP.dconst0), (.int p3)]) (rest := []) (W := 0) f482 (rm_addB0 l Z a0 hw b431 (0 : Int32) (0 : Int32) FP.dconst0 p3 b1_445 b2_445 b3_445 b4_445 b5_445 b6_444 b1_466 (own_l [(0 : Int32), (0 : Int32), (0 : Int32), (0 : Int32)]) (own_l [(0 : Int32), (0 : Int32), (0 : Int32), (0 : Int32)]) (upD (upD (fun _ => (0 : UInt64)) 0 FP.dconst0) 0 FP.dconst0) (1 : Int32) (1 : Int32) (2 : Int64) 1 h473 n0 (Nat.le_trans (Nat.le_trans (Nat.le_trans (Nat.le_trans (Nat.le_trans (Nat.le_trans zj138 E431.1) Kq444.1) Kq445.1) Kq457.1) Kq466.1) Kq473.1) f482 Fq0_473 Fq1_473 Fq2_473 Fq3_473 Fq4_473 Fq5_473 Fq6_473 Fq7_473 V477 V478 Fq13_473 Fq8_473 Fq9_473 Fq10_473 (Ne.symm ne459) (Ne.symm ne460) (Ne.symm ne475) nqb1_b2_445 nqb1_b5_445 nqb2_b5_445 g432 gqb1_445 gqb2_445 gqb5_445 rfl (by decide)) (hb hby at_205) (by rw [hml]; rfl) rfl pd8 rfl rfl (by decide) (by decide) (by decide) (by decide) ?_
                intro v481 T481 L481 X481 hQ481
                obtain ⟨h481, e481⟩ : ∃ z, T481.heap = z := ⟨_, rfl⟩
                rw [e481] at hQ481
                obtain ⟨rfl, Nq481, Kq481, Fq0_481, Fq1_481, Fq2_481, Fq3_481, Fq4_481, Fq5_481, Fq6_481, Fq7_481, Fq8_481, Fq9_481, Fq10_481, Fq11_481, Fq12_481, Fq13_481⟩ := hQ481
                have N481 := Fr.app N473 Nq481
                have z483 : n0 ≤ h481.size := (Nat.le_trans (Nat.le_trans (Nat.le_trans (Nat.le_trans (Nat.le_trans (Nat.le_trans (Nat.le_trans zj138 E431.1) Kq444.1) Kq445.1) Kq457.1) Kq466.1) Kq473.1) Kq481.1)
                have Fq8_481 : Fld Z h481 b431 kES "bound" "I" (.int (2 : Int32)) := Fq8_481
                have Fq9_481 : Fld Z h481 b431 kES "count" "I" (.int (2 : Int32)) := Fq9_481
                have Fq10_481 : Fld Z h481 b431 kES "nextNumber" "J" (.long (3 : Int64)) := Fq10_481
                refine Go.push (pc' := 208) rfl ?_
                refine g_istore X481 hx hby at_208 (pc' := 210) rfl (L' := #[.val (.int p1), .val (.int p2), .val (.int p3), .val (.int (0 : Int32)), .val (.int (1 : Int32)), .val (.int (0 : Int32)), .val (.int av), .val (.int ra), .val (.ref b403), .val (.ref b407), .val (.int nv), .val (.int v417), .val (.ref b431), .val (.int (0 : Int32)), .val (.int (1 : Int32))]) rfl ?_
                have V484 : ArF Z h481 b1_445 .int 4 (fun i => .int ((own_l [(0 : Int32), (0 : Int32), (0 : Int32), (0 : Int32)]) i)) := Fq11_481.congr (fun i hi => congrArg Value.int ((by decide : ∀ i, i < 4 → (own_l [(0 : Int32), (0 : Int32), (0 : Int32), (0 : Int32)]) i = (upI (own_l [(0 : Int32), (0 : Int32), (0 : Int32), (0 : Int32)]) 1 (0 : Int32)) i) i hi))
                have V485 : ArF Z h481 b2_445 .int 4 (fun i => .int ((own_l [(0 : Int32), (0 : Int32), (0 : Int32), (0 : Int32)]) i)) := Fq12_481.congr (fun i hi => congrArg Value.int ((by decide : ∀ i, i < 4 → (own_l [(0 : Int32), (0 : Int32), (0 : Int32), (0 : Int32)]) i = (upI (own_l [(0 : Int32), (0 : Int32), (0 : Int32), (0 : Int32)]) 1 (0 : Int32)) i) i hi))
                have f486 := (f480.keep Kq481 (ninS ne455 (ninS ne464 (ninS ne463 (ninS ne479 nin0)))))
                refine g_iload X481 hx hby at_210 (pc' := 212) rfl rfl ?_
                have hc212 : (0 : Int) = (0 : Int) := by decide
                refine g_ifYes X481 hx hby at_212 (pc' := 222) (teq (show (0 : Int32) = (0 : Int32) from Int32.toInt_inj.mp hc212)).1 (by decide) (by decide) ?_
                refine g_aload X481 hx hby at_222 (pc' := 224) rfl rfl rfl ?_
                refine g_aload X481 hx hby at_224 (pc' := 226) rfl rfl rfl ?_
                refine g_aconst_null X481 hx hby at_226 (pc' := 227) rfl  ?_
                refine g_aconst_null X481 hx hby at_227 (pc' := 228) rfl  ?_
                have f488 := f482.keep Kq481
                have ne489 : b5_445 ≠ b1_466 := Nat.ne_of_lt (Nat.lt_of_lt_of_le (Fq15_445.keep Kq457 (ninS (Ne.symm ne475) (ninS (Ne.symm nqb1_b5_445) (ninS (Ne.symm nqb2_b5_445) nin0)))).lt sqb1_466)
                have ne490 : b2_445 ≠ b1_466 := Nat.ne_of_lt (Nat.lt_of_lt_of_le V462.lt sqb1_466)
                have ne491 : b1_445 ≠ b1_466 := Nat.ne_of_lt (Nat.lt_of_lt_of_le V461.lt sqb1_466)
                have ne492 : b431 ≠ b1_466 := Nat.ne_of_lt (Nat.lt_of_lt_of_le f467.lt sqb1_466)
                have f493 := ((Fq13_466.keep Kq473 (ninS (Ne.symm ne492) (ninS (Ne.symm ne491) (ninS (Ne.symm ne490) (ninS (Ne.symm ne489) nin0))))).keep Kq481 (ninS (Ne.symm ne492) (ninS (Ne.symm ne491) (ninS (Ne.symm ne490) (ninS (Ne.symm ne489) nin0)))))
                refine Go.callV X481 hx hZ hown (wi hw 74 rfl) (wi hw 75 rfl) (notFace_of_selects (args := #[]) (mvT hZ (wi hw 77 rfl))) (wi hw 77 rfl) (wi hw 76 rfl) (wi hw 6 rfl) (wi hw 78 rfl) (by decide) e481 (a := b431) (argsL := [(.ref b403), .null, .null]) (rest := []) (W := 0) f488 (rm_compactB10 l Z a0 hw b431 b403 b1_445 b2_445 b1_466 (0 : Int32) b3_445 b4_445 b5_445 b6_444 (fun _ => (0 : Int64)) h481 n0 z483 f488 Fq2_481 Fq3_481 Fq8_481 Fq9_481 Fq1_481 Fq10_481 Fq0_481 Fq4_481 Fq5_481 Fq6_481 Fq7_481 V484 V485 f493 f486 (Ne.symm ne459) (Ne.symm ne460) nqb1_b2_445 (Ne.symm ne492) (Ne.symm ne491) (Ne.symm ne490) ne455 ne464 ne463 g432 gqb1_445 gqb2_445) (hb hby at_228) (by rw [hml]; rfl) rfl pd9 rfl rfl (by decide) (by decide) (by decide) (by decide) ?_
                intro v487 T487 L487 X487 hQ487
                obtain ⟨h487, e487⟩ : ∃ z, T487.heap = z := ⟨_, rfl⟩
                rw [e487] at hQ487
                obtain ⟨rfl, Nq487, Kq487, Fq0_487, Fq1_487, Fq2_487, Fq3_487, Fq4_487, Fq5_487, Fq6_487, Fq7_487, Fq8_487, Fq9_487, Fq10_487, Fq11_487, Fq12_487⟩ := hQ487
                have N487 := Fr.app N481 Nq487
                refine Go.void (pc' := 231) rfl ?_
                have f494 := (f486.keep Kq487 (ninS ne455 (ninS ne464 (ninS ne463 nin0))))
                have hA0 := hJ52
                rcases hA0 with hA | hA
                · have hA' := congrArg Int32.toInt hA
                  refine g_iload X487 hx hby at_231 (pc' := 233) rfl rfl ?_
                  have hc233 : av.toInt = (0 : Int) := hA'
                  refine g_ifYes X487 hx hby at_233 (pc' := 246) (teq (show av = (0 : Int32) from Int32.toInt_inj.mp hc233)).1 (by decide) (by decide) ?_
                  have ne495 : b407 ≠ b431 := Nat.ne_of_lt (by rw [hb431]; exact fj138_1.lt)
                  have ne496 : b407 ≠ b1_445 := Nat.ne_of_lt (Nat.lt_of_lt_of_le ((fj138_1.ext E431).keep Kq444 (ninS ne495 nin0)).lt sqb1_445)
                  have ne497 : b407 ≠ b2_445 := Nat.ne_of_lt (Nat.lt_of_lt_of_le ((fj138_1.ext E431).keep Kq444 (ninS ne495 nin0)).lt sqb2_445)
                  have f498 := f488.keep Kq487
                  have f499 := (f493.keep Kq487 (ninS (Ne.symm ne492) (ninS (Ne.symm ne491) (ninS (Ne.symm ne490) nin0))))
                  have ne500 : b407 ≠ b5_445 := Nat.ne_of_lt (Nat.lt_of_lt_of_le ((fj138_1.ext E431).keep Kq444 (ninS ne495 nin0)).lt sqb5_445)
                  have f501 := ((((((((fj138_1.ext E431).keep Kq444 (ninS ne495 nin0)).keep Kq445 (ninS ne495 nin0)).keep Kq457 (ninS ne495 (ninS ne496 (ninS ne497 nin0)))).keep Kq466 (ninS ne495 (ninS ne496 (ninS ne497 nin0)))).keep Kq473 (ninS ne495 (ninS ne496 (ninS ne497 (ninS ne500 nin0))))).keep Kq481 (ninS ne495 (ninS ne496 (ninS ne497 (ninS ne500 nin0))))).keep Kq487 (ninS ne495 (ninS ne496 (ninS ne497 nin0))))
                  exact J246a0 (T487, _, h487, (0 : Int32), (0 : Int32), (1 : Int32), b431, b1_445, b2_445, b1_466) ⟨X487.more (by decide) (by decide), e487, N487, (Nat.le_trans z483 Kq487.1), f498, Fq0_487, Fq1_487, Fq2_487, Fq3_487, Fq4_487, Fq5_487, Fq11_487, Fq12_487, f499, f501, (show b1_445 ≠ b431 ∧ b2_445 ≠ b431 ∧ b1_445 ≠ b2_445 ∧ b1_466 ≠ b431 ∧ b1_466 ≠ b1_445 ∧ b1_466 ≠ b2_445 ∧ b407 ≠ b431 ∧ b407 ≠ b1_445 ∧ b407 ≠ b2_445 ∧ n0 ≤ b431 ∧ n0 ≤ b1_445 ∧ n0 ≤ b2_445 ∧ av = (0 : Int32) from ⟨(Ne.symm ne459), (Ne.symm ne460), nqb1_b2_445, (Ne.symm ne492), (Ne.symm ne491), (Ne.symm ne490), ne495, ne496, ne497, g432, gqb1_445, gqb2_445, hA⟩)⟩
                · have hA' := congrArg Int32.toInt hA
                  refine g_iload X487 hx hby at_231 (pc' := 233) rfl rfl ?_
                  have hc233 : ¬ (av.toInt = (0 : Int)) := by intro q; rw [hA'] at q; exact absurd q (by decide)
                  refine g_ifNo X487 hx hby at_233 (pc' := 236) (feq (show ¬ (av = (0 : Int32)) from fun q => hc233 (congrArg Int32.toInt q))).1 rfl ?_
                  refine g_aload X487 hx hby at_236 (pc' := 238) rfl rfl rfl ?_
                  refine g_iconst X487 hx hby at_238 (pc' := 239) rfl (z := (0 : Int32)) rfl ?_
                  refine g_iconst X487 hx hby at_239 (pc' := 240) rfl (z := (0 : Int32)) rfl ?_
                  refine Go.of (fun _ k => XS.dconst0 X487.here hx rfl (hb hby at_240) (v := FP.dconst0) rfl k) ?_
                  show Go p.tables e below s _ _ _ (T487.setTop (mkF m 241 #[.val (.int p1), .val (.int p2), .val (.int p3), .val (.int (0 : Int32)), .val (.int (1 : Int32)), .val (.int (0 : Int32)), .val (.int av), .val (.int ra), .val (.ref b403), .val (.ref b407), .val (.int nv), .val (.int v417), .val (.ref b431), .val (.int (0 : Int32)), .val (.int (1 : Int32))] [(.double FP.dconst0), (.int (0 : Int32)), (.int (0 : Int32)), (.ref b431)]))
                  refine g_iloadN X487 hx hby at_241 (pc' := 242) rfl rfl ?_
                  have f503 := f488.keep Kq487
                  have f504 := (Fq13_481.keep Kq487 (ninS (Ne.symm ne475) (ninS (Ne.symm nqb1_b5_445) (ninS (Ne.symm nqb2_b5_445) nin0))))
                  refine Go.callV X487 hx hZ hown (wi hw 30 rfl) (wi hw 31 rfl) (notFace_of_selects (args := #[]) (mvT hZ (wi hw 33 rfl))) (wi hw 33 rfl) (wi hw 32 rfl) (wi hw 6 rfl) (wi hw 34 rfl) (by decide) e487 (a := b431) (argsL := [(.int (0 : Int32)), (.int (0 : Int32)), (.double FP.dconst0), (.int p3)]) (rest := []) (W := 0) f503 (rm_addB0 l Z a0 hw b431 (0 : Int32) (0 : Int32) FP.dconst0 p3 b1_445 b2_445 b3_445 b4_445 b5_445 b6_444 b1_466 (own_l [(0 : Int32), (0 : Int32), (0 : Int32), (0 : Int32)]) (own_l [(0 : Int32), (0 : Int32), (0 : Int32), (0 : Int32)]) (upD (upD (upD (fun _ => (0 : UInt64)) 0 FP.dconst0) 0 FP.dconst0) 1 FP.dconst0) (2 : Int32) (2 : Int32) (3 : Int64) 2 h487 n0 (Nat.le_trans z483 Kq487.1) f503 Fq6_487 Fq4_487 Fq0_487 Fq1_487 Fq7_487 Fq8_487 Fq9_487 Fq10_487 Fq11_487 Fq12_487 f504 Fq2_487 Fq3_487 Fq5_487 (Ne.symm ne459) (Ne.symm ne460) (Ne.symm ne475) nqb1_b2_445 nqb1_b5_445 nqb2_b5_445 g432 gqb1_445 gqb2_445 gqb5_445 rfl (by decide)) (hb hby at_242) (by rw [hml]; rfl) rfl pd8 rfl rfl (by decide) (by decide) (by decide) (by decide) ?_
                  intro v502 T502 L502 X502 hQ502
                  obtain ⟨h502, e502⟩ : ∃ z, T502.heap = z := ⟨_, rfl⟩
                  rw [e502] at hQ502
                  obtain ⟨rfl, Nq502, Kq502, Fq0_502, Fq1_502, Fq2_502, Fq3_502, Fq4_502, Fq5_502, Fq6_502, Fq7_502, Fq8_502, Fq9_502, Fq10_502, Fq11_502, Fq12_502, Fq13_502⟩ := hQ502
                  have N502 := Fr.app N487 Nq502
                  have Fq8_502 : Fld Z h502 b431 kES "bound" "I" (.int (3 : Int32)) := Fq8_502
                  have Fq9_502 : Fld Z h502 b431 kES "count" "I" (.int (3 : Int32)) := Fq9_502
                  have Fq10_502 : Fld Z h502 b431 kES "nextNumber" "J" (.long (4 : Int64)) := Fq10_502
                  refine Go.push (pc' := 245) rfl ?_
                  refine g_pop X502 hx hby at_245 (pc' := 246) rfl rfl ?_
                  have V505 : ArF Z h502 b1_445 .int 4 (fun i => .int ((own_l [(0 : Int32), (0 : Int32), (0 : Int32), (0 : Int32)]) i)) := Fq11_502.congr (fun i hi => congrArg Value.int ((by decide : ∀ i, i < 4 → (own_l [(0 : Int32), (0 : Int32), (0 : Int32), (0 : Int32)]) i = (upI (own_l [(0 : Int32), (0 : Int32), (0 : Int32), (0 : Int32)]) 2 (0 : Int32)) i) i hi))
                  have V506 : ArF Z h502 b2_445 .int 4 (fun i => .int ((own_l [(0 : Int32), (0 : Int32), (0 : Int32), (0 : Int32)]) i)) := Fq12_502.congr (fun i hi => congrArg Value.int ((by decide : ∀ i, i < 4 → (own_l [(0 : Int32), (0 : Int32), (0 : Int32), (0 : Int32)]) i = (upI (own_l [(0 : Int32), (0 : Int32), (0 : Int32), (0 : Int32)]) 2 (0 : Int32)) i) i hi))
                  have ne507 : b407 ≠ b431 := Nat.ne_of_lt (by rw [hb431]; exact fj138_1.lt)
                  have ne508 : b407 ≠ b1_445 := Nat.ne_of_lt (Nat.lt_of_lt_of_le ((fj138_1.ext E431).keep Kq444 (ninS ne507 nin0)).lt sqb1_445)
                  have ne509 : b407 ≠ b2_445 := Nat.ne_of_lt (Nat.lt_of_lt_of_le ((fj138_1.ext E431).keep Kq444 (ninS ne507 nin0)).lt sqb2_445)
                  have f510 := f503.keep Kq502
                  have f511 := ((f493.keep Kq487 (ninS (Ne.symm ne492) (ninS (Ne.symm ne491) (ninS (Ne.symm ne490) nin0)))).keep Kq502 (ninS (Ne.symm ne492) (ninS (Ne.symm ne491) (ninS (Ne.symm ne490) (ninS (Ne.symm ne489) nin0)))))
                  have ne512 : b407 ≠ b5_445 := Nat.ne_of_lt (Nat.lt_of_lt_of_le ((fj138_1.ext E431).keep Kq444 (ninS ne507 nin0)).lt sqb5_445)
                  have f513 := (((((((((fj138_1.ext E431).keep Kq444 (ninS ne507 nin0)).keep Kq445 (ninS ne507 nin0)).keep Kq457 (ninS ne507 (ninS ne508 (ninS ne509 nin0)))).keep Kq466 (ninS ne507 (ninS ne508 (ninS ne509 nin0)))).keep Kq473 (ninS ne507 (ninS ne508 (ninS ne509 (ninS ne512 nin0))))).keep Kq481 (ninS ne507 (ninS ne508 (ninS ne509 (ninS ne512 nin0))))).keep Kq487 (ninS ne507 (ninS ne508 (ninS ne509 nin0)))).keep Kq502 (ninS ne507 (ninS ne508 (ninS ne509 (ninS ne512 nin0)))))
                  exact J246a1 (T502, _, h502, (0 : Int32), (0 : Int32), (1 : Int32), b431, b1_445, b2_445, b1_466) ⟨X502.more (by decide) (by decide), e502, N502, (Nat.le_trans (Nat.le_trans z483 Kq487.1) Kq502.1), f510, Fq2_502, Fq3_502, Fq8_502, Fq9_502, Fq1_502, Fq10_502, V505, V506, f511, f513, (show b1_445 ≠ b431 ∧ b2_445 ≠ b431 ∧ b1_445 ≠ b2_445 ∧ b1_466 ≠ b431 ∧ b1_466 ≠ b1_445 ∧ b1_466 ≠ b2_445 ∧ b407 ≠ b431 ∧ b407 ≠ b1_445 ∧ b407 ≠ b2_445 ∧ n0 ≤ b431 ∧ n0 ≤ b1_445 ∧ n0 ≤ b2_445 ∧ av = (1 : Int32) from ⟨(Ne.symm ne459), (Ne.symm ne460), nqb1_b2_445, (Ne.symm ne492), (Ne.symm ne491), (Ne.symm ne490), ne507, ne508, ne509, g432, gqb1_445, gqb2_445, hA⟩)⟩
              · show Go p.tables e below s _ _ _ (Tj138.setTop (mkF m 147 #[.val (.int p1), .val (.int p2), .val (.int p3), .val (.int (1 : Int32)), .val (.int (1 : Int32)), .val (.int (0 : Int32)), .val (.int av), .val (.int ra), .val (.ref b403), .val (.ref b407), .val (.int nv), .val (.int v417), .unset, .unset, .unset] []))
                refine g_new Xj138 hx hby hZ hown (wi hw 4 rfl) (wi hw 5 rfl) (wi hw 6 rfl) ej138 at_147 (pc' := 150) rfl (by decide) (by decide) ?_
                intro T514 h514 b514 X514 e514 E514 hb514 A514 D514
                have g515 : n0 ≤ b514 := by rw [hb514]; exact zj138
                have F516 : Fld Z h514 b514 "com/example/edgewise/edgewise/EdgeSlots" "sources" "[I" .null := D514 (Or.inl (wi hw 14 rfl)) (ty := (.array .int)) (by decide)
                have F517 : Fld Z h514 b514 "com/example/edgewise/edgewise/EdgeSlots" "targets" "[I" .null := D514 (Or.inl (wi hw 16 rfl)) (ty := (.array .int)) (by decide)
                have F518 : Fld Z h514 b514 "com/example/edgewise/edgewise/EdgeSlots" "sourcePositions" "[I" .null := D514 (Or.inl (wi hw 18 rfl)) (ty := (.array .int)) (by decide)
                have F519 : Fld Z h514 b514 "com/example/edgewise/edgewise/EdgeSlots" "targetPositions" "[I" .null := D514 (Or.inl (wi hw 20 rfl)) (ty := (.array .int)) (by decide)
                have F520 : Fld Z h514 b514 "com/example/edgewise/edgewise/EdgeSlots" "weights" "[D" .null := D514 (Or.inl (wi hw 23 rfl)) (ty := (.array .double)) (by decide)
                have F521 : Fld Z h514 b514 "com/example/edgewise/edgewise/EdgeSlots" "keys" "[I" .null := D514 (Or.inl (wi hw 25 rfl)) (ty := (.array .int)) (by decide)
                have F522 : Fld Z h514 b514 "com/example/edgewise/edgewise/EdgeSlots" "keptNumbers" "[J" .null := D514 (Or.inl (wi hw 27 rfl)) (ty := (.array .long)) (by decide)
                have F523 : Fld Z h514 b514 "com/example/edgewise/edgewise/EdgeSlots" "keyed" "Z" (.int (0 : Int32)) := D514 (Or.inr (wi hw 29 rfl)) (ty := .boolean) (by decide)
                have F524 : Fld Z h514 b514 "com/example/edgewise/edgewise/EdgeSlots" "bound" "I" (.int (0 : Int32)) := D514 (Or.inl (wi hw 36 rfl)) (ty := .int) (by decide)
                have F525 : Fld Z h514 b514 "com/example/edgewise/edgewise/EdgeSlots" "count" "I" (.int (0 : Int32)) := D514 (Or.inl (wi hw 71 rfl)) (ty := .int) (by decide)
                have F526 : Fld Z h514 b514 "com/example/edgewise/edgewise/EdgeSlots" "nextNumber" "J" (.long (0 : Int64)) := D514 (Or.inl (wi hw 73 rfl)) (ty := .long) (by decide)
                refine g_dup X514 hx hby at_150 (pc' := 151) rfl rfl ?_
                refine g_iloadN X514 hx hby at_151 (pc' := 152) rfl rfl ?_
                refine Go.callI X514 hx hZ hown rfl (wi hw 7 rfl) (wi hw 8 rfl) (wi hw 6 rfl) (wi hw 9 rfl) (by decide) e514 (a := b514) (argsL := [(.int (1 : Int32))]) (rest := [(.ref b514)]) (W := 1) (rm_init1 l Z a0 hw b514 h514 n0 (Nat.le_trans zj138 E514.1) A514 F516 F517 F518 F519 F520 F521 F522 F523 F524 F525 F526 g515) (hb hby at_152) (by rw [hml]; rfl) rfl pd7 rfl rfl (by decide) (by decide) (by decide) (by decide) ?_
                intro v527 T527 L527 X527 hQ527
                obtain ⟨h527, e527⟩ : ∃ z, T527.heap = z := ⟨_, rfl⟩
                rw [e527] at hQ527
                obtain ⟨b1_527, b2_527, b3_527, b4_527, b5_527, b6_527, b7_527, rfl, Nq527, Kq527, gqb1_527, sqb1_527, gqb2_527, sqb2_527, gqb3_527, sqb3_527, gqb4_527, sqb4_527, gqb5_527, sqb5_527, gqb6_527, sqb6_527, gqb7_527, sqb7_527, nqb1_b2_527, nqb1_b3_527, nqb1_b4_527, nqb1_b5_527, nqb1_b6_527, nqb1_b7_527, nqb2_b3_527, nqb2_b4_527, nqb2_b5_527, nqb2_b6_527, nqb2_b7_527, nqb3_b4_527, nqb3_b5_527, nqb3_b6_527, nqb3_b7_527, nqb4_b5_527, nqb4_b6_527, nqb4_b7_527, nqb5_b6_527, nqb5_b7_527, nqb6_b7_527, Fq0_527, Fq1_527, Fq2_527, Fq3_527, Fq4_527, Fq5_527, Fq6_527, Fq7_527, Fq8_527, Fq9_527, Fq10_527, Fq11_527, Fq12_527, Fq13_527, Fq14_527, Fq15_527, Fq16_527, Fq17_527⟩ := hQ527
                have N527 := Fr.app Nj138 Nq527
                refine Go.void (pc' := 155) rfl ?_
                refine g_astore X527 hx hby at_155 (pc' := 157) rfl rfl (L' := #[.val (.int p1), .val (.int p2), .val (.int p3), .val (.int (1 : Int32)), .val (.int (1 : Int32)), .val (.int (0 : Int32)), .val (.int av), .val (.int ra), .val (.ref b403), .val (.ref b407), .val (.int nv), .val (.int v417), .val (.ref b514), .unset, .unset]) rfl ?_
                refine g_aload X527 hx hby at_157 (pc' := 159) rfl rfl rfl ?_
                refine g_iconst X527 hx hby at_159 (pc' := 160) rfl (z := (0 : Int32)) rfl ?_
                refine g_iconst X527 hx hby at_160 (pc' := 161) rfl (z := (0 : Int32)) rfl ?_
                refine Go.of (fun _ k => XS.dconst0 X527.here hx rfl (hb hby at_161) (v := FP.dconst0) rfl k) ?_
                show Go p.tables e below s _ _ _ (T527.setTop (mkF m 162 #[.val (.int p1), .val (.int p2), .val (.int p3), .val (.int (1 : Int32)), .val (.int (1 : Int32)), .val (.int (0 : Int32)), .val (.int av), .val (.int ra), .val (.ref b403), .val (.ref b407), .val (.int nv), .val (.int v417), .val (.ref b514), .unset, .unset] [(.double FP.dconst0), (.int (0 : Int32)), (.int (0 : Int32)), (.ref b514)]))
                refine g_iloadN X527 hx hby at_162 (pc' := 163) rfl rfl ?_
                have f529 := A514.keep Kq527
                have ne530 : b514 ≠ b1_527 := Nat.ne_of_lt (Nat.lt_of_lt_of_le F526.lt sqb1_527)
                have ne531 : b514 ≠ b2_527 := Nat.ne_of_lt (Nat.lt_of_lt_of_le F526.lt sqb2_527)
                have ne532 : b514 ≠ b3_527 := Nat.ne_of_lt (Nat.lt_of_lt_of_le F526.lt sqb3_527)
                have ne533 : b514 ≠ b4_527 := Nat.ne_of_lt (Nat.lt_of_lt_of_le F526.lt sqb4_527)
                have ne534 : b514 ≠ b5_527 := Nat.ne_of_lt (Nat.lt_of_lt_of_le F526.lt sqb5_527)
                have ne535 : b514 ≠ b6_527 := Nat.ne_of_lt (Nat.lt_of_lt_of_le F526.lt sqb6_527)
                refine Go.callV X527 hx hZ hown (wi hw 30 rfl) (wi hw 31 rfl) (notFace_of_selects (args := #[]) (mvT hZ (wi hw 33 rfl))) (wi hw 33 rfl) (wi hw 32 rfl) (wi hw 6 rfl) (wi hw 34 rfl) (by decide) e527 (a := b514) (argsL := [(.int (0 : Int32)), (.int (0 : Int32)), (.double FP.dconst0), (.int p3)]) (rest := []) (W := 0) f529 (rm_addA1 l Z a0 hw b514 (0 : Int32) (0 : Int32) FP.dconst0 p3 b1_527 b2_527 b3_527 b4_527 b5_527 b6_527 b7_527 (fun _ => (0 : Int32)) (fun _ => (0 : Int32)) (fun _ => (0 : Int32)) (fun _ => (0 : Int32)) (fun _ => (0 : UInt64)) (fun _ => (0 : Int32)) (0 : Int32) (0 : Int64) h527 n0 (Nat.le_trans (Nat.le_trans zj138 E514.1) Kq527.1) f529 Fq7_527 Fq6_527 Fq0_527 Fq1_527 Fq2_527 Fq3_527 Fq4_527 Fq5_527 Fq11_527 Fq12_527 Fq13_527 Fq14_527 Fq15_527 Fq16_527 Fq8_527 Fq9_527 Fq10_527 (Ne.symm ne530) (Ne.symm ne531) (Ne.symm ne532) (Ne.symm ne533) (Ne.symm ne534) (Ne.symm ne535) g515) (hb hby at_163) (by rw [hml]; rfl) rfl pd8 rfl rfl (by decide) (by decide) (by decide) (by decide) ?_
                intro v528 T528 L528 X528 hQ528
                obtain ⟨h528, e528⟩ : ∃ z, T528.heap = z := ⟨_, rfl⟩
                rw [e528] at hQ528
                obtain ⟨b1_528, b2_528, b3_528, b4_528, b5_528, b6_528, rfl, Nq528, Kq528, gqb1_528, sqb1_528, gqb2_528, sqb2_528, gqb3_528, sqb3_528, gqb4_528, sqb4_528, gqb5_528, sqb5_528, gqb6_528, sqb6_528, nqb1_b2_528, nqb1_b3_528, nqb1_b4_528, nqb1_b5_528, nqb1_b6_528, nqb2_b3_528, nqb2_b4_528, nqb2_b5_528, nqb2_b6_528, nqb3_b4_528, nqb3_b5_528, nqb3_b6_528, nqb4_b5_528, nqb4_b6_528, nqb5_b6_528, Fq0_528, Fq1_528, Fq2_528, Fq3_528, Fq4_528, Fq5_528, Fq6_528, Fq7_528, Fq8_528, Fq9_528, Fq10_528, Fq11_528, Fq12_528, Fq13_528, Fq14_528, Fq15_528, Fq16_528⟩ := hQ528
                have N528 := Fr.app N527 Nq528
                have Fq9_528 : Fld Z h528 b514 kES "count" "I" (.int (1 : Int32)) := Fq9_528
                have Fq10_528 : Fld Z h528 b514 kES "nextNumber" "J" (.long (1 : Int64)) := Fq10_528
                refine Go.push (pc' := 166) rfl ?_
                refine g_istore X528 hx hby at_166 (pc' := 168) rfl (L' := #[.val (.int p1), .val (.int p2), .val (.int p3), .val (.int (1 : Int32)), .val (.int (1 : Int32)), .val (.int (0 : Int32)), .val (.int av), .val (.int ra), .val (.ref b403), .val (.ref b407), .val (.int nv), .val (.int v417), .val (.ref b514), .val (.int (0 : Int32)), .unset]) rfl ?_
                have V536 : ArF Z h528 b1_528 .int 4 (fun i => .int ((own_l [(0 : Int32), (0 : Int32), (0 : Int32), (0 : Int32)]) i)) := Fq11_528.congr (fun i hi => congrArg Value.int ((by decide : ∀ i, i < 4 → (own_l [(0 : Int32), (0 : Int32), (0 : Int32), (0 : Int32)]) i = (upI (fun _ => (0 : Int32)) 0 (0 : Int32)) i) i hi))
                have V537 : ArF Z h528 b2_528 .int 4 (fun i => .int ((own_l [(0 : Int32), (0 : Int32), (0 : Int32), (0 : Int32)]) i)) := Fq12_528.congr (fun i hi => congrArg Value.int ((by decide : ∀ i, i < 4 → (own_l [(0 : Int32), (0 : Int32), (0 : Int32), (0 : Int32)]) i = (upI (fun _ => (0 : Int32)) 0 (0 : Int32)) i) i hi))
                have ne538 : b403 ≠ b514 := Nat.ne_of_lt (by rw [hb514]; exact fj138_0.lt)
                have f539 := (((fj138_0.ext E514).keep Kq527 (ninS ne538 nin0)).keep Kq528 (ninS ne538 nin0))
                refine g_iload X528 hx hby at_168 (pc' := 170) rfl rfl ?_
                have hc170 : ¬ ((1 : Int) = (0 : Int)) := by decide
                refine g_ifNo X528 hx hby at_170 (pc' := 173) (feq (show ¬ ((1 : Int32) = (0 : Int32)) from fun q => hc170 (congrArg Int32.toInt q))).1 rfl ?_
                refine g_aload X528 hx hby at_173 (pc' := 175) rfl rfl rfl ?_
                refine g_iload X528 hx hby at_175 (pc' := 177) rfl rfl ?_
                have f541 := f529.keep Kq528
                have ne542 : b514 ≠ b1_528 := Nat.ne_of_lt (Nat.lt_of_lt_of_le f529.lt sqb1_528)
                have ne543 : b514 ≠ b2_528 := Nat.ne_of_lt (Nat.lt_of_lt_of_le f529.lt sqb2_528)
                refine Go.callV X528 hx hZ hown (wi hw 87 rfl) (wi hw 88 rfl) (notFace_of_selects (args := #[]) (mvT hZ (wi hw 90 rfl))) (wi hw 90 rfl) (wi hw 89 rfl) (wi hw 6 rfl) (wi hw 91 rfl) (by decide) e528 (a := b514) (argsL := [(.int (0 : Int32))]) (rest := []) (W := 0) f541 (rm_remove4 l Z a0 hw b514 (0 : Int32) b1_528 b2_528 (own_l [(0 : Int32), (0 : Int32), (0 : Int32), (0 : Int32)]) (own_l [(0 : Int32), (0 : Int32), (0 : Int32), (0 : Int32)]) (1 : Int32) (1 : Int32) 0 (1 : Int32) b3_528 b4_528 b5_528 b6_528 b7_527 (1 : Int64) h528 n0 (Nat.le_trans (Nat.le_trans (Nat.le_trans zj138 E514.1) Kq527.1) Kq528.1) f541 Fq2_528 Fq3_528 V536 V537 Fq8_528 Fq9_528 Fq0_528 Fq4_528 Fq5_528 Fq6_528 Fq7_528 Fq1_528 Fq10_528 (Ne.symm ne542) (Ne.symm ne543) nqb1_b2_528 g515 gqb1_528 gqb2_528 rfl (by decide)) (hb hby at_177) (by rw [hml]; rfl) rfl pd5 rfl rfl (by decide) (by decide) (by decide) (by decide) ?_
                intro v540 T540 L540 X540 hQ540
                obtain ⟨h540, e540⟩ : ∃ z, T540.heap = z := ⟨_, rfl⟩
                rw [e540] at hQ540
                obtain ⟨rfl, Nq540, Kq540, Fq0_540, Fq1_540, Fq2_540, Fq3_540, Fq4_540, Fq5_540, Fq6_540, Fq7_540, Fq8_540, Fq9_540, Fq10_540, Fq11_540, Fq12_540⟩ := hQ540
                have N540 := Fr.app N528 Nq540
                have Fq5_540 : Fld Z h540 b514 kES "count" "I" (.int (0 : Int32)) := Fq5_540
                refine Go.void (pc' := 180) rfl ?_
                have V544 : ArF Z h540 b1_528 .int 4 (fun i => .int ((own_l [(-1 : Int32), (0 : Int32), (0 : Int32), (0 : Int32)]) i)) := Fq2_540.congr (fun i hi => congrArg Value.int ((by decide : ∀ i, i < 4 → (own_l [(-1 : Int32), (0 : Int32), (0 : Int32), (0 : Int32)]) i = (upI (own_l [(0 : Int32), (0 : Int32), (0 : Int32), (0 : Int32)]) 0 (-1 : Int32)) i) i hi))
                have V545 : ArF Z h540 b2_528 .int 4 (fun i => .int ((own_l [(-1 : Int32), (0 : Int32), (0 : Int32), (0 : Int32)]) i)) := Fq3_540.congr (fun i hi => congrArg Value.int ((by decide : ∀ i, i < 4 → (own_l [(-1 : Int32), (0 : Int32), (0 : Int32), (0 : Int32)]) i = (upI (own_l [(0 : Int32), (0 : Int32), (0 : Int32), (0 : Int32)]) 0 (-1 : Int32)) i) i hi))
                have ne546 : b403 ≠ b2_528 := Nat.ne_of_lt (Nat.lt_of_lt_of_le ((fj138_0.ext E514).keep Kq527 (ninS ne538 nin0)).lt sqb2_528)
                have ne547 : b403 ≠ b1_528 := Nat.ne_of_lt (Nat.lt_of_lt_of_le ((fj138_0.ext E514).keep Kq527 (ninS ne538 nin0)).lt sqb1_528)
                have f548 := (f539.keep Kq540 (ninS ne538 (ninS ne547 (ninS ne546 nin0))))
                refine g_aload X540 hx hby at_180 (pc' := 182) rfl rfl rfl ?_
                refine g_aload X540 hx hby at_182 (pc' := 184) rfl rfl rfl ?_
                refine g_aconst_null X540 hx hby at_184 (pc' := 185) rfl  ?_
                refine g_aconst_null X540 hx hby at_185 (pc' := 186) rfl  ?_
                have f550 := f541.keep Kq540
                have ne551 : b514 ≠ b7_527 := Nat.ne_of_lt (Nat.lt_of_lt_of_le F526.lt sqb7_527)
                have ne552 : b7_527 ≠ b2_528 := Nat.ne_of_lt (Nat.lt_of_lt_of_le Fq17_527.lt sqb2_528)
                have ne553 : b7_527 ≠ b1_528 := Nat.ne_of_lt (Nat.lt_of_lt_of_le Fq17_527.lt sqb1_528)
                have f554 := ((Fq17_527.keep Kq528 (ninS (Ne.symm ne551) nin0)).keep Kq540 (ninS (Ne.symm ne551) (ninS ne553 (ninS ne552 nin0))))
                refine Go.callV X540 hx hZ hown (wi hw 74 rfl) (wi hw 75 rfl) (notFace_of_selects (args := #[]) (mvT hZ (wi hw 77 rfl))) (wi hw 77 rfl) (wi hw 76 rfl) (wi hw 6 rfl) (wi hw 78 rfl) (by decide) e540 (a := b514) (argsL := [(.ref b403), .null, .null]) (rest := []) (W := 0) f550 (rm_compactA1 l Z a0 hw b514 b403 b1_528 b2_528 b7_527 (1 : Int32) b3_528 b4_528 b5_528 b6_528 (fun _ => (0 : Int64)) h540 n0 (Nat.le_trans (Nat.le_trans (Nat.le_trans (Nat.le_trans zj138 E514.1) Kq527.1) Kq528.1) Kq540.1) f550 Fq0_540 Fq1_540 Fq4_540 Fq5_540 Fq11_540 Fq12_540 Fq6_540 Fq7_540 Fq8_540 Fq9_540 Fq10_540 V544 V545 f554 f548 (Ne.symm ne542) (Ne.symm ne543) nqb1_b2_528 (Ne.symm ne551) ne553 ne552 ne538 ne547 ne546 g515 gqb1_528 gqb2_528) (hb hby at_186) (by rw [hml]; rfl) rfl pd9 rfl rfl (by decide) (by decide) (by decide) (by decide) ?_
                intro v549 T549 L549 X549 hQ549
                obtain ⟨h549, e549⟩ : ∃ z, T549.heap = z := ⟨_, rfl⟩
                rw [e549] at hQ549
                obtain ⟨b1_549, rfl, Nq549, Kq549, gqb1_549, sqb1_549, Fq0_549, Fq1_549, Fq2_549, Fq3_549, Fq4_549, Fq5_549, Fq6_549, Fq7_549, Fq8_549, Fq9_549, Fq10_549, Fq11_549, Fq12_549, Fq13_549⟩ := hQ549
                have N549 := Fr.app N540 Nq549
                refine Go.void (pc' := 189) rfl ?_
                have f555 := (f548.keep Kq549 (ninS ne538 (ninS ne547 (ninS ne546 nin0))))
                refine g_aload X549 hx hby at_189 (pc' := 191) rfl rfl rfl ?_
                refine g_iconst X549 hx hby at_191 (pc' := 192) rfl (z := (0 : Int32)) rfl ?_
                refine g_iconst X549 hx hby at_192 (pc' := 193) rfl (z := (0 : Int32)) rfl ?_
                refine Go.of (fun _ k => XS.dconst0 X549.here hx rfl (hb hby at_193) (v := FP.dconst0) rfl k) ?_
                show Go p.tables e below s _ _ _ (T549.setTop (mkF m 194 #[.val (.int p1), .val (.int p2), .val (.int p3), .val (.int (1 : Int32)), .val (.int (1 : Int32)), .val (.int (0 : Int32)), .val (.int av), .val (.int ra), .val (.ref b403), .val (.ref b407), .val (.int nv), .val (.int v417), .val (.ref b514), .val (.int (0 : Int32)), .unset] [(.double FP.dconst0), (.int (0 : Int32)), (.int (0 : Int32)), (.ref b514)]))
                refine g_iloadN X549 hx hby at_194 (pc' := 195) rfl rfl ?_
                have f557 := f550.keep Kq549
                have ne558 : b514 ≠ b5_528 := Nat.ne_of_lt (Nat.lt_of_lt_of_le f529.lt sqb5_528)
                have f559 := ((Fq15_528.keep Kq540 (ninS (Ne.symm ne558) (ninS (Ne.symm nqb1_b5_528) (ninS (Ne.symm nqb2_b5_528) nin0)))).keep Kq549 (ninS (Ne.symm ne558) (ninS (Ne.symm nqb1_b5_528) (ninS (Ne.symm nqb2_b5_528) nin0))))
                have ne560 : b514 ≠ b6_528 := Nat.ne_of_lt (Nat.lt_of_lt_of_le f529.lt sqb6_528)
                have f561 := ((Fq16_528.keep Kq540 (ninS (Ne.symm ne560) (ninS (Ne.symm nqb1_b6_528) (ninS (Ne.symm nqb2_b6_528) nin0)))).keep Kq549 (ninS (Ne.symm ne560) (ninS (Ne.symm nqb1_b6_528) (ninS (Ne.symm nqb2_b6_528) nin0))))
                refine Go.callV X549 hx hZ hown (wi hw 30 rfl) (wi hw 31 rfl) (notFace_of_selects (args := #[]) (mvT hZ (wi hw 33 rfl))) (wi hw 33 rfl) (wi hw 32 rfl) (wi hw 6 rfl) (wi hw 34 rfl) (by decide) e549 (a := b514) (argsL := [(.int (0 : Int32)), (.int (0 : Int32)), (.double FP.dconst0), (.int p3)]) (rest := []) (W := 0) f557 (rm_addB1 l Z a0 hw b514 (0 : Int32) (0 : Int32) FP.dconst0 p3 b1_528 b2_528 b3_528 b4_528 b5_528 b6_528 b1_549 (own_l [(-1 : Int32), (0 : Int32), (0 : Int32), (0 : Int32)]) (own_l [(-1 : Int32), (0 : Int32), (0 : Int32), (0 : Int32)]) (upD (fun _ => (0 : UInt64)) 0 FP.dconst0) (upI (fun _ => (0 : Int32)) 0 p3) (0 : Int32) (0 : Int32) (1 : Int64) 0 h549 n0 (Nat.le_trans (Nat.le_trans (Nat.le_trans (Nat.le_trans (Nat.le_trans zj138 E514.1) Kq527.1) Kq528.1) Kq540.1) Kq549.1) f557 Fq6_549 Fq4_549 Fq0_549 Fq1_549 Fq7_549 Fq8_549 Fq9_549 Fq10_549 Fq11_549 Fq12_549 f559 f561 Fq2_549 Fq3_549 Fq5_549 (Ne.symm ne542) (Ne.symm ne543) (Ne.symm ne558) (Ne.symm ne560) nqb1_b2_528 nqb1_b5_528 nqb1_b6_528 nqb2_b5_528 nqb2_b6_528 nqb5_b6_528 g515 gqb1_528 gqb2_528 gqb5_528 gqb6_528 rfl (by decide)) (hb hby at_195) (by rw [hml]; rfl) rfl pd8 rfl rfl (by decide) (by decide) (by decide) (by decide) ?_
                intro v556 T556 L556 X556 hQ556
                obtain ⟨h556, e556⟩ : ∃ z, T556.heap = z := ⟨_, rfl⟩
                rw [e556] at hQ556
                obtain ⟨rfl, Nq556, Kq556, Fq0_556, Fq1_556, Fq2_556, Fq3_556, Fq4_556, Fq5_556, Fq6_556, Fq7_556, Fq8_556, Fq9_556, Fq10_556, Fq11_556, Fq12_556, Fq13_556, Fq14_556⟩ := hQ556
                have N556 := Fr.app N549 Nq556
                have Fq8_556 : Fld Z h556 b514 kES "bound" "I" (.int (1 : Int32)) := Fq8_556
                have Fq9_556 : Fld Z h556 b514 kES "count" "I" (.int (1 : Int32)) := Fq9_556
                have Fq10_556 : Fld Z h556 b514 kES "nextNumber" "J" (.long (2 : Int64)) := Fq10_556
                refine Go.push (pc' := 198) rfl ?_
                refine g_pop X556 hx hby at_198 (pc' := 199) rfl rfl ?_
                have V562 : ArF Z h556 b1_528 .int 4 (fun i => .int ((own_l [(0 : Int32), (0 : Int32), (0 : Int32), (0 : Int32)]) i)) := Fq11_556.congr (fun i hi => congrArg Value.int ((by decide : ∀ i, i < 4 → (own_l [(0 : Int32), (0 : Int32), (0 : Int32), (0 : Int32)]) i = (upI (own_l [(-1 : Int32), (0 : Int32), (0 : Int32), (0 : Int32)]) 0 (0 : Int32)) i) i hi))
                have V563 : ArF Z h556 b2_528 .int 4 (fun i => .int ((own_l [(0 : Int32), (0 : Int32), (0 : Int32), (0 : Int32)]) i)) := Fq12_556.congr (fun i hi => congrArg Value.int ((by decide : ∀ i, i < 4 → (own_l [(0 : Int32), (0 : Int32), (0 : Int32), (0 : Int32)]) i = (upI (own_l [(-1 : Int32), (0 : Int32), (0 : Int32), (0 : Int32)]) 0 (0 : Int32)) i) i hi))
                have ne564 : b403 ≠ b6_528 := Nat.ne_of_lt (Nat.lt_of_lt_of_le ((fj138_0.ext E514).keep Kq527 (ninS ne538 nin0)).lt sqb6_528)
                have ne565 : b403 ≠ b5_528 := Nat.ne_of_lt (Nat.lt_of_lt_of_le ((fj138_0.ext E514).keep Kq527 (ninS ne538 nin0)).lt sqb5_528)
                have f566 := (f555.keep Kq556 (ninS ne538 (ninS ne547 (ninS ne546 (ninS ne565 (ninS ne564 nin0))))))
                refine g_aload X556 hx hby at_199 (pc' := 201) rfl rfl rfl ?_
                refine g_iconst X556 hx hby at_201 (pc' := 202) rfl (z := (0 : Int32)) rfl ?_
                refine g_iconst X556 hx hby at_202 (pc' := 203) rfl (z := (0 : Int32)) rfl ?_
                refine Go.of (fun _ k => XS.dconst0 X556.here hx rfl (hb hby at_203) (v := FP.dconst0) rfl k) ?_
                show Go p.tables e below s _ _ _ (T556.setTop (mkF m 204 #[.val (.int p1), .val (.int p2), .val (.int p3), .val (.int (1 : Int32)), .val (.int (1 : Int32)), .val (.int (0 : Int32)), .val (.int av), .val (.int ra), .val (.ref b403), .val (.ref b407), .val (.int nv), .val (.int v417), .val (.ref b514), .val (.int (0 : Int32)), .unset] [(.double FP.dconst0), (.int (0 : Int32)), (.int (0 : Int32)), (.ref b514)]))
                refine g_iloadN X556 hx hby at_204 (pc' := 205) rfl rfl ?_
                have f568 := f557.keep Kq556
                refine Go.callV X556 hx hZ hown (wi hw 30 rfl) (wi hw 31 rfl) (notFace_of_selects (args := #[]) (mvT hZ (wi hw 33 rfl))) (wi hw 33 rfl) (wi hw 32 rfl) (wi hw 6 rfl) (wi hw 34 rfl) (by decide) e556 (a := b514) (argsL := [(.int (0 : Int32)), (.int (0 : Int32)), (.double FP.dconst0), (.int p3)]) (rest := []) (W := 0) f568 (rm_addB1 l Z a0 hw b514 (0 : Int32) (0 : Int32) FP.dconst0 p3 b1_528 b2_528 b3_528 b4_528 b5_528 b6_528 b1_549 (own_l [(0 : Int32), (0 : Int32), (0 : Int32), (0 : Int32)]) (own_l [(0 : Int32), (0 : Int32), (0 : Int32), (0 : Int32)]) (upD (upD (fun _ => (0 : UInt64)) 0 FP.dconst0) 0 FP.dconst0) (upI (upI (fun _ => (0 : Int32)) 0 p3) 0 p3) (1 : Int32) (1 : Int32) (2 : Int64) 1 h556 n0 (Nat.le_trans (Nat.le_trans (Nat.le_trans (Nat.le_trans (Nat.le_trans (Nat.le_trans zj138 E514.1) Kq527.1) Kq528.1) Kq540.1) Kq549.1) Kq556.1) f568 Fq0_556 Fq1_556 Fq2_556 Fq3_556 Fq4_556 Fq5_556 Fq6_556 Fq7_556 V562 V563 Fq13_556 Fq14_556 Fq8_556 Fq9_556 Fq10_556 (Ne.symm ne542) (Ne.symm ne543) (Ne.symm ne558) (Ne.symm ne560) nqb1_b2_528 nqb1_b5_528 nqb1_b6_528 nqb2_b5_528 nqb2_b6_528 nqb5_b6_528 g515 gqb1_528 gqb2_528 gqb5_528 gqb6_528 rfl (by decide)) (hb hby at_205) (by rw [hml]; rfl) rfl pd8 rfl rfl (by decide) (by decide) (by decide) (by decide) ?_
                intro v567 T567 L567 X567 hQ567
                obtain ⟨h567, e567⟩ : ∃ z, T567.heap = z := ⟨_, rfl⟩
                rw [e567] at hQ567
                obtain ⟨rfl, Nq567, Kq567, Fq0_567, Fq1_567, Fq2_567, Fq3_567, Fq4_567, Fq5_567, Fq6_567, Fq7_567, Fq8_567, Fq9_567, Fq10_567, Fq11_567, Fq12_567, Fq13_567, Fq14_567⟩ := hQ567
                have N567 := Fr.app N556 Nq567
                have z569 : n0 ≤ h567.size := (Nat.le_trans (Nat.le_trans (Nat.le_trans (Nat.le_trans (Nat.le_trans (Nat.le_trans (Nat.le_trans zj138 E514.1) Kq527.1) Kq528.1) Kq540.1) Kq549.1) Kq556.1) Kq567.1)
                have Fq8_567 : Fld Z h567 b514 kES "bound" "I" (.int (2 : Int32)) := Fq8_567
                have Fq9_567 : Fld Z h567 b514 kES "count" "I" (.int (2 : Int32)) := Fq9_567
                have Fq10_567 : Fld Z h567 b514 kES "nextNumber" "J" (.long (3 : Int64)) := Fq10_567
                refine Go.push (pc' := 208) rfl ?_
                refine g_istore X567 hx hby at_208 (pc' := 210) rfl (L' := #[.val (.int p1), .val (.int p2), .val (.int p3), .val (.int (1 : Int32)), .val (.int (1 : Int32)), .val (.int (0 : Int32)), .val (.int av), .val (.int ra), .val (.ref b403), .val (.ref b407), .val (.int nv), .val (.int v417), .val (.ref b514), .val (.int (0 : Int32)), .val (.int (1 : Int32))]) rfl ?_
                have V570 : ArF Z h567 b1_528 .int 4 (fun i => .int ((own_l [(0 : Int32), (0 : Int32), (0 : Int32), (0 : Int32)]) i)) := Fq11_567.congr (fun i hi => congrArg Value.int ((by decide : ∀ i, i < 4 → (own_l [(0 : Int32), (0 : Int32), (0 : Int32), (0 : Int32)]) i = (upI (own_l [(0 : Int32), (0 : Int32), (0 : Int32), (0 : Int32)]) 1 (0 : Int32)) i) i hi))
                have V571 : ArF Z h567 b2_528 .int 4 (fun i => .int ((own_l [(0 : Int32), (0 : Int32), (0 : Int32), (0 : Int32)]) i)) := Fq12_567.congr (fun i hi => congrArg Value.int ((by decide : ∀ i, i < 4 → (own_l [(0 : Int32), (0 : Int32), (0 : Int32), (0 : Int32)]) i = (upI (own_l [(0 : Int32), (0 : Int32), (0 : Int32), (0 : Int32)]) 1 (0 : Int32)) i) i hi))
                have f572 := (f566.keep Kq567 (ninS ne538 (ninS ne547 (ninS ne546 (ninS ne565 (ninS ne564 nin0))))))
                refine g_iload X567 hx hby at_210 (pc' := 212) rfl rfl ?_
                have hc212 : (0 : Int) = (0 : Int) := by decide
                refine g_ifYes X567 hx hby at_212 (pc' := 222) (teq (show (0 : Int32) = (0 : Int32) from Int32.toInt_inj.mp hc212)).1 (by decide) (by decide) ?_
                refine g_aload X567 hx hby at_222 (pc' := 224) rfl rfl rfl ?_
                refine g_aload X567 hx hby at_224 (pc' := 226) rfl rfl rfl ?_
                refine g_aconst_null X567 hx hby at_226 (pc' := 227) rfl  ?_
                refine g_aconst_null X567 hx hby at_227 (pc' := 228) rfl  ?_
                have f574 := f568.keep Kq567
                have ne575 : b6_528 ≠ b1_549 := Nat.ne_of_lt (Nat.lt_of_lt_of_le (Fq16_528.keep Kq540 (ninS (Ne.symm ne560) (ninS (Ne.symm nqb1_b6_528) (ninS (Ne.symm nqb2_b6_528) nin0)))).lt sqb1_549)
                have ne576 : b5_528 ≠ b1_549 := Nat.ne_of_lt (Nat.lt_of_lt_of_le (Fq15_528.keep Kq540 (ninS (Ne.symm ne558) (ninS (Ne.symm nqb1_b5_528) (ninS (Ne.symm nqb2_b5_528) nin0)))).lt sqb1_549)
                have ne577 : b2_528 ≠ b1_549 := Nat.ne_of_lt (Nat.lt_of_lt_of_le V545.lt sqb1_549)
                have ne578 : b1_528 ≠ b1_549 := Nat.ne_of_lt (Nat.lt_of_lt_of_le V544.lt sqb1_549)
                have ne579 : b514 ≠ b1_549 := Nat.ne_of_lt (Nat.lt_of_lt_of_le f550.lt sqb1_549)
                have f580 := ((Fq13_549.keep Kq556 (ninS (Ne.symm ne579) (ninS (Ne.symm ne578) (ninS (Ne.symm ne577) (ninS (Ne.symm ne576) (ninS (Ne.symm ne575) nin0)))))).keep Kq567 (ninS (Ne.symm ne579) (ninS (Ne.symm ne578) (ninS (Ne.symm ne577) (ninS (Ne.symm ne576) (ninS (Ne.symm ne575) nin0))))))
                refine Go.callV X567 hx hZ hown (wi hw 74 rfl) (wi hw 75 rfl) (notFace_of_selects (args := #[]) (mvT hZ (wi hw 77 rfl))) (wi hw 77 rfl) (wi hw 76 rfl) (wi hw 6 rfl) (wi hw 78 rfl) (by decide) e567 (a := b514) (argsL := [(.ref b403), .null, .null]) (rest := []) (W := 0) f574 (rm_compactB10 l Z a0 hw b514 b403 b1_528 b2_528 b1_549 (1 : Int32) b3_528 b4_528 b5_528 b6_528 (fun _ => (0 : Int64)) h567 n0 z569 f574 Fq2_567 Fq3_567 Fq8_567 Fq9_567 Fq1_567 Fq10_567 Fq0_567 Fq4_567 Fq5_567 Fq6_567 Fq7_567 V570 V571 f580 f572 (Ne.symm ne542) (Ne.symm ne543) nqb1_b2_528 (Ne.symm ne579) (Ne.symm ne578) (Ne.symm ne577) ne538 ne547 ne546 g515 gqb1_528 gqb2_528) (hb hby at_228) (by rw [hml]; rfl) rfl pd9 rfl rfl (by decide) (by decide) (by decide) (by decide) ?_
                intro v573 T573 L573 X573 hQ573
                obtain ⟨h573, e573⟩ : ∃ z, T573.heap = z := ⟨_, rfl⟩
                rw [e573] at hQ573
                obtain ⟨rfl, Nq573, Kq573, Fq0_573, Fq1_573, Fq2_573, Fq3_573, Fq4_573, Fq5_573, Fq6_573, Fq7_573, Fq8_573, Fq9_573, Fq10_573, Fq11_573, Fq12_573⟩ := hQ573
                have N573 := Fr.app N567 Nq573
                refine Go.void (pc' := 231) rfl ?_
                have f581 := (f572.keep Kq573 (ninS ne538 (ninS ne547 (ninS ne546 nin0))))
                have hA0 := hJ52
                rcases hA0 with hA | hA
                · have hA' := congrArg Int32.toInt hA
                  refine g_iload X573 hx hby at_231 (pc' := 233) rfl rfl ?_
                  have hc233 : av.toInt = (0 : Int) := hA'
                  refine g_ifYes X573 hx hby at_233 (pc' := 246) (teq (show av = (0 : Int32) from Int32.toInt_inj.mp hc233)).1 (by decide) (by decide) ?_
                  have ne582 : b407 ≠ b514 := Nat.ne_of_lt (by rw [hb514]; exact fj138_1.lt)
                  have ne583 : b407 ≠ b1_528 := Nat.ne_of_lt (Nat.lt_of_lt_of_le ((fj138_1.ext E514).keep Kq527 (ninS ne582 nin0)).lt sqb1_528)
                  have ne584 : b407 ≠ b2_528 := Nat.ne_of_lt (Nat.lt_of_lt_of_le ((fj138_1.ext E514).keep Kq527 (ninS ne582 nin0)).lt sqb2_528)
                  have f585 := f574.keep Kq573
                  have f586 := (f580.keep Kq573 (ninS (Ne.symm ne579) (ninS (Ne.symm ne578) (ninS (Ne.symm ne577) nin0))))
                  have ne587 : b407 ≠ b6_528 := Nat.ne_of_lt (Nat.lt_of_lt_of_le ((fj138_1.ext E514).keep Kq527 (ninS ne582 nin0)).lt sqb6_528)
                  have ne588 : b407 ≠ b5_528 := Nat.ne_of_lt (Nat.lt_of_lt_of_le ((fj138_1.ext E514).keep Kq527 (ninS ne582 nin0)).lt sqb5_528)
                  have f589 := ((((((((fj138_1.ext E514).keep Kq527 (ninS ne582 nin0)).keep Kq528 (ninS ne582 nin0)).keep Kq540 (ninS ne582 (ninS ne583 (ninS ne584 nin0)))).keep Kq549 (ninS ne582 (ninS ne583 (ninS ne584 nin0)))).keep Kq556 (ninS ne582 (ninS ne583 (ninS ne584 (ninS ne588 (ninS ne587 nin0)))))).keep Kq567 (ninS ne582 (ninS ne583 (ninS ne584 (ninS ne588 (ninS ne587 nin0)))))).keep Kq573 (ninS ne582 (ninS ne583 (ninS ne584 nin0))))
                  exact J246a0 (T573, _, h573, (1 : Int32), (0 : Int32), (1 : Int32), b514, b1_528, b2_528, b1_549) ⟨X573.more (by decide) (by decide), e573, N573, (Nat.le_trans z569 Kq573.1), f585, Fq0_573, Fq1_573, Fq2_573, Fq3_573, Fq4_573, Fq5_573, Fq11_573, Fq12_573, f586, f589, (show b1_528 ≠ b514 ∧ b2_528 ≠ b514 ∧ b1_528 ≠ b2_528 ∧ b1_549 ≠ b514 ∧ b1_549 ≠ b1_528 ∧ b1_549 ≠ b2_528 ∧ b407 ≠ b514 ∧ b407 ≠ b1_528 ∧ b407 ≠ b2_528 ∧ n0 ≤ b514 ∧ n0 ≤ b1_528 ∧ n0 ≤ b2_528 ∧ av = (0 : Int32) from ⟨(Ne.symm ne542), (Ne.symm ne543), nqb1_b2_528, (Ne.symm ne579), (Ne.symm ne578), (Ne.symm ne577), ne582, ne583, ne584, g515, gqb1_528, gqb2_528, hA⟩)⟩
                · have hA' := congrArg Int32.toInt hA
                  refine g_iload X573 hx hby at_231 (pc' := 233) rfl rfl ?_
                  have hc233 : ¬ (av.toInt = (0 : Int)) := by intro q; rw [hA'] at q; exact absurd q (by decide)
                  refine g_ifNo X573 hx hby at_233 (pc' := 236) (feq (show ¬ (av = (0 : Int32)) from fun q => hc233 (congrArg Int32.toInt q))).1 rfl ?_
                  refine g_aload X573 hx hby at_236 (pc' := 238) rfl rfl rfl ?_
                  refine g_iconst X573 hx hby at_238 (pc' := 239) rfl (z := (0 : Int32)) rfl ?_
                  refine g_iconst X573 hx hby at_239 (pc' := 240) rfl (z := (0 : Int32)) rfl ?_
                  refine Go.of (fun _ k => XS.dconst0 X573.here hx rfl (hb hby at_240) (v := FP.dconst0) rfl k) ?_
                  show Go p.tables e below s _ _ _ (T573.setTop (mkF m 241 #[.val (.int p1), .val (.int p2), .val (.int p3), .val (.int (1 : Int32)), .val (.int (1 : Int32)), .val (.int (0 : Int32)), .val (.int av), .val (.int ra), .val (.ref b403), .val (.ref b407), .val (.int nv), .val (.int v417), .val (.ref b514), .val (.int (0 : Int32)), .val (.int (1 : Int32))] [(.double FP.dconst0), (.int (0 : Int32)), (.int (0 : Int32)), (.ref b514)]))
                  refine g_iloadN X573 hx hby at_241 (pc' := 242) rfl rfl ?_
                  have f591 := f574.keep Kq573
                  have f592 := (Fq13_567.keep Kq573 (ninS (Ne.symm ne558) (ninS (Ne.symm nqb1_b5_528) (ninS (Ne.symm nqb2_b5_528) nin0))))
                  have f593 := (Fq14_567.keep Kq573 (ninS (Ne.symm ne560) (ninS (Ne.symm nqb1_b6_528) (ninS (Ne.symm nqb2_b6_528) nin0))))
                  refine Go.callV X573 hx hZ hown (wi hw 30 rfl) (wi hw 31 rfl) (notFace_of_selects (args := #[]) (mvT hZ (wi hw 33 rfl))) (wi hw 33 rfl) (wi hw 32 rfl) (wi hw 6 rfl) (wi hw 34 rfl) (by decide) e573 (a := b514) (argsL := [(.int (0 : Int32)), (.int (0 : Int32)), (.double FP.dconst0), (.int p3)]) (rest := []) (W := 0) f591 (rm_addB1 l Z a0 hw b514 (0 : Int32) (0 : Int32) FP.dconst0 p3 b1_528 b2_528 b3_528 b4_528 b5_528 b6_528 b1_549 (own_l [(0 : Int32), (0 : Int32), (0 : Int32), (0 : Int32)]) (own_l [(0 : Int32), (0 : Int32), (0 : Int32), (0 : Int32)]) (upD (upD (upD (fun _ => (0 : UInt64)) 0 FP.dconst0) 0 FP.dconst0) 1 FP.dconst0) (upI (upI (upI (fun _ => (0 : Int32)) 0 p3) 0 p3) 1 p3) (2 : Int32) (2 : Int32) (3 : Int64) 2 h573 n0 (Nat.le_trans z569 Kq573.1) f591 Fq6_573 Fq4_573 Fq0_573 Fq1_573 Fq7_573 Fq8_573 Fq9_573 Fq10_573 Fq11_573 Fq12_573 f592 f593 Fq2_573 Fq3_573 Fq5_573 (Ne.symm ne542) (Ne.symm ne543) (Ne.symm ne558) (Ne.symm ne560) nqb1_b2_528 nqb1_b5_528 nqb1_b6_528 nqb2_b5_528 nqb2_b6_528 nqb5_b6_528 g515 gqb1_528 gqb2_528 gqb5_528 gqb6_528 rfl (by decide)) (hb hby at_242) (by rw [hml]; rfl) rfl pd8 rfl rfl (by decide) (by decide) (by decide) (by decide) ?_
                  intro v590 T590 L590 X590 hQ590
                  obtain ⟨h590, e590⟩ : ∃ z, T590.heap = z := ⟨_, rfl⟩
                  rw [e590] at hQ590
                  obtain ⟨rfl, Nq590, Kq590, Fq0_590, Fq1_590, Fq2_590, Fq3_590, Fq4_590, Fq5_590, Fq6_590, Fq7_590, Fq8_590, Fq9_590, Fq10_590, Fq11_590, Fq12_590, Fq13_590, Fq14_590⟩ := hQ590
                  have N590 := Fr.app N573 Nq590
                  have Fq8_590 : Fld Z h590 b514 kES "bound" "I" (.int (3 : Int32)) := Fq8_590
                  have Fq9_590 : Fld Z h590 b514 kES "count" "I" (.int (3 : Int32)) := Fq9_590
                  have Fq10_590 : Fld Z h590 b514 kES "nextNumber" "J" (.long (4 : Int64)) := Fq10_590
                  refine Go.push (pc' := 245) rfl ?_
                  refine g_pop X590 hx hby at_245 (pc' := 246) rfl rfl ?_
                  have V594 : ArF Z h590 b1_528 .int 4 (fun i => .int ((own_l [(0 : Int32), (0 : Int32), (0 : Int32), (0 : Int32)]) i)) := Fq11_590.congr (fun i hi => congrArg Value.int ((by decide : ∀ i, i < 4 → (own_l [(0 : Int32), (0 : Int32), (0 : Int32), (0 : Int32)]) i = (upI (own_l [(0 : Int32), (0 : Int32), (0 : Int32), (0 : Int32)]) 2 (0 : Int32)) i) i hi))
                  have V595 : ArF Z h590 b2_528 .int 4 (fun i => .int ((own_l [(0 : Int32), (0 : Int32), (0 : Int32), (0 : Int32)]) i)) := Fq12_590.congr (fun i hi => congrArg Value.int ((by decide : ∀ i, i < 4 → (own_l [(0 : Int32), (0 : Int32), (0 : Int32), (0 : Int32)]) i = (upI (own_l [(0 : Int32), (0 : Int32), (0 : Int32), (0 : Int32)]) 2 (0 : Int32)) i) i hi))
                  have ne596 : b407 ≠ b514 := Nat.ne_of_lt (by rw [hb514]; exact fj138_1.lt)
                  have ne597 : b407 ≠ b1_528 := Nat.ne_of_lt (Nat.lt_of_lt_of_le ((fj138_1.ext E514).keep Kq527 (ninS ne596 nin0)).lt sqb1_528)
                  have ne598 : b407 ≠ b2_528 := Nat.ne_of_lt (Nat.lt_of_lt_of_le ((fj138_1.ext E514).keep Kq527 (ninS ne596 nin0)).lt sqb2_528)
                  have f599 := f591.keep Kq590
                  have f600 := ((f580.keep Kq573 (ninS (Ne.symm ne579) (ninS (Ne.symm ne578) (ninS (Ne.symm ne577) nin0)))).keep Kq590 (ninS (Ne.symm ne579) (ninS (Ne.symm ne578) (ninS (Ne.symm ne577) (ninS (Ne.symm ne576) (ninS (Ne.symm ne575) nin0))))))
                  have ne601 : b407 ≠ b6_528 := Nat.ne_of_lt (Nat.lt_of_lt_of_le ((fj138_1.ext E514).keep Kq527 (ninS ne596 nin0)).lt sqb6_528)
                  have ne602 : b407 ≠ b5_528 := Nat.ne_of_lt (Nat.lt_of_lt_of_le ((fj138_1.ext E514).keep Kq527 (ninS ne596 nin0)).lt sqb5_528)
                  have f603 := (((((((((fj138_1.ext E514).keep Kq527 (ninS ne596 nin0)).keep Kq528 (ninS ne596 nin0)).keep Kq540 (ninS ne596 (ninS ne597 (ninS ne598 nin0)))).keep Kq549 (ninS ne596 (ninS ne597 (ninS ne598 nin0)))).keep Kq556 (ninS ne596 (ninS ne597 (ninS ne598 (ninS ne602 (ninS ne601 nin0)))))).keep Kq567 (ninS ne596 (ninS ne597 (ninS ne598 (ninS ne602 (ninS ne601 nin0)))))).keep Kq573 (ninS ne596 (ninS ne597 (ninS ne598 nin0)))).keep Kq590 (ninS ne596 (ninS ne597 (ninS ne598 (ninS ne602 (ninS ne601 nin0))))))
                  exact J246a1 (T590, _, h590, (1 : Int32), (0 : Int32), (1 : Int32), b514, b1_528, b2_528, b1_549) ⟨X590.more (by decide) (by decide), e590, N590, (Nat.le_trans (Nat.le_trans z569 Kq573.1) Kq590.1), f599, Fq2_590, Fq3_590, Fq8_590, Fq9_590, Fq1_590, Fq10_590, V594, V595, f600, f603, (show b1_528 ≠ b514 ∧ b2_528 ≠ b514 ∧ b1_528 ≠ b2_528 ∧ b1_549 ≠ b514 ∧ b1_549 ≠ b1_528 ∧ b1_549 ≠ b2_528 ∧ b407 ≠ b514 ∧ b407 ≠ b1_528 ∧ b407 ≠ b2_528 ∧ n0 ≤ b514 ∧ n0 ≤ b1_528 ∧ n0 ≤ b2_528 ∧ av = (1 : Int32) from ⟨(Ne.symm ne542), (Ne.symm ne543), nqb1_b2_528, (Ne.symm ne579), (Ne.symm ne578), (Ne.symm ne577), ne596, ne597, ne598, g515, gqb1_528, gqb2_528, hA⟩)⟩
            intro J138
            refine g_iload X411 hx hby at_122 (pc' := 124) rfl rfl ?_
            by_cases hc124 : av.toInt = (0 : Int)
            · refine g_ifYes X411 hx hby at_124 (pc' := 138) (teq (show av = (0 : Int32) from Int32.toInt_inj.mp hc124)).1 (by decide) (by decide) ?_
              exact J138 (T411, _, h411, (2 : Int32), (own_lj [(1 : Int64), (2 : Int64), (0 : Int64), (0 : Int64)])) ⟨X411.more (by decide) (by decide), e411, (Fr.snoc X411 (Fr.snoc X410 (Fr.snoc X406 N0 g404) g408) g408), z412, V416, V413, (show (av = (0 : Int32) ∧ (2 : Int32) = (2 : Int32) ∧ (own_lj [(1 : Int64), (2 : Int64), (0 : Int64), (0 : Int64)]) = (own_lj [(1 : Int64), (2 : Int64), (0 : Int64), (0 : Int64)])) ∨ (av = (1 : Int32) ∧ (2 : Int32) = (3 : Int32) ∧ (own_lj [(1 : Int64), (2 : Int64), (0 : Int64), (0 : Int64)]) = (own_lj [(1 : Int64), (2 : Int64), (3 : Int64), (0 : Int64)])) from Or.inl ⟨Int32.toInt_inj.mp hc124, rfl, rfl⟩)⟩
            · refine g_ifNo X411 hx hby at_124 (pc' := 127) (feq (show ¬ (av = (0 : Int32)) from fun q => hc124 (congrArg Int32.toInt q))).1 rfl ?_
              refine g_aload X411 hx hby at_127 (pc' := 129) rfl rfl rfl ?_
              refine g_iload X411 hx hby at_129 (pc' := 131) rfl rfl ?_
              refine g_ldcL X411 hx hby hZ hown (wi hw 96 rfl) at_131 (pc' := 134) rfl ?_
              refine Go.lastore X411 hx hZ e411 V413 (k := 2) rfl (by decide) (hb hby at_134) (pc' := 135) rfl ?_
              intro T604 h604 X604 e604 W604 V604
              refine g_iinc X604 hx hby at_135 (pc' := 138) rfl rfl (L' := #[.val (.int p1), .val (.int p2), .val (.int p3), .val (.int kd), .val (.int (1 : Int32)), .val (.int (0 : Int32)), .val (.int av), .val (.int ra), .val (.ref b403), .val (.ref b407), .val (.int (3 : Int32)), .unset, .unset, .unset, .unset]) rfl ?_
              have V605 : ArF Z h604 b407 .long 4 (fun i => .long ((own_lj [(1 : Int64), (2 : Int64), (3 : Int64), (0 : Int64)]) i)) := V604.congr (fun i hi => congrArg Value.long ((by decide : ∀ i, i < 4 → (own_lj [(1 : Int64), (2 : Int64), (3 : Int64), (0 : Int64)]) i = (upJ (own_lj [(1 : Int64), (2 : Int64), (0 : Int64), (0 : Int64)]) 2 (3 : Int64)) i) i hi))
              have f606 := V416.other W604 ne414
              exact J138 (T604, _, h604, (3 : Int32), (own_lj [(1 : Int64), (2 : Int64), (3 : Int64), (0 : Int64)])) ⟨X604.more (by decide) (by decide), e604, (Fr.snoc X604 (Fr.snoc X411 (Fr.snoc X410 (Fr.snoc X406 N0 g404) g408) g408) g408), (Nat.le_trans z412 (Nat.le_of_eq (Wr.size W604).symm)), f606, V605, (show (av = (0 : Int32) ∧ (3 : Int32) = (2 : Int32) ∧ (own_lj [(1 : Int64), (2 : Int64), (3 : Int64), (0 : Int64)]) = (own_lj [(1 : Int64), (2 : Int64), (0 : Int64), (0 : Int64)])) ∨ (av = (1 : Int32) ∧ (3 : Int32) = (3 : Int32) ∧ (own_lj [(1 : Int64), (2 : Int64), (3 : Int64), (0 : Int64)]) = (own_lj [(1 : Int64), (2 : Int64), (3 : Int64), (0 : Int64)])) from Or.inr ⟨hJ52.resolve_left (fun q => hc124 (congrArg Int32.toInt q)), rfl, rfl⟩)⟩
          intro J66
          refine g_iloadN X0 hx hby at_52 (pc' := 53) rfl rfl ?_
          refine g_bipush X0 hx hby at_53 (pc' := 55) rfl (z := (16 : Int32)) rfl ?_
          refine g_iand X0 hx hby at_55 (pc' := 56) rfl rfl ?_
          by_cases hc56 : (p1 &&& (16 : Int32)).toInt = (0 : Int)
          · refine g_ifYes X0 hx hby at_56 (pc' := 63) (teq (show (p1 &&& (16 : Int32)) = (0 : Int32) from Int32.toInt_inj.mp hc56)).1 (by decide) (by decide) ?_
            refine g_iconst X0 hx hby at_63 (pc' := 64) rfl (z := (0 : Int32)) rfl ?_
            refine g_istore X0 hx hby at_64 (pc' := 66) rfl (L' := #[.val (.int p1), .val (.int p2), .val (.int p3), .val (.int kd), .val (.int (1 : Int32)), .val (.int (0 : Int32)), .val (.int av), .val (.int (0 : Int32)), .unset, .unset, .unset, .unset, .unset, .unset, .unset]) rfl ?_
            exact J66 ((0 : Int32)) (Or.inl rfl)
          · refine g_ifNo X0 hx hby at_56 (pc' := 59) (feq (show ¬ ((p1 &&& (16 : Int32)) = (0 : Int32)) from fun q => hc56 (congrArg Int32.toInt q))).1 rfl ?_
            refine g_iconst X0 hx hby at_59 (pc' := 60) rfl (z := (1 : Int32)) rfl ?_
            refine g_goto X0 hx hby at_60 (pc' := 64) (by decide) (by decide) ?_
            refine g_istore X0 hx hby at_64 (pc' := 66) rfl (L' := #[.val (.int p1), .val (.int p2), .val (.int p3), .val (.int kd), .val (.int (1 : Int32)), .val (.int (0 : Int32)), .val (.int av), .val (.int (1 : Int32)), .unset, .unset, .unset, .unset, .unset, .unset, .unset]) rfl ?_
            exact J66 ((1 : Int32)) (Or.inr rfl)
        intro J52
        refine g_iloadN X0 hx hby at_38 (pc' := 39) rfl rfl ?_
        refine g_bipush X0 hx hby at_39 (pc' := 41) rfl (z := (8 : Int32)) rfl ?_
        refine g_iand X0 hx hby at_41 (pc' := 42) rfl rfl ?_
        by_cases hc42 : (p1 &&& (8 : Int32)).toInt = (0 : Int)
        · refine g_ifYes X0 hx hby at_42 (pc' := 49) (teq (show (p1 &&& (8 : Int32)) = (0 : Int32) from Int32.toInt_inj.mp hc42)).1 (by decide) (by decide) ?_
          refine g_iconst X0 hx hby at_49 (pc' := 50) rfl (z := (0 : Int32)) rfl ?_
          refine g_istore X0 hx hby at_50 (pc' := 52) rfl (L' := #[.val (.int p1), .val (.int p2), .val (.int p3), .val (.int kd), .val (.int (1 : Int32)), .val (.int (0 : Int32)), .val (.int (0 : Int32)), .unset, .unset, .unset, .unset, .unset, .unset, .unset, .unset]) rfl ?_
          exact J52 ((0 : Int32)) (Or.inl rfl)
        · refine g_ifNo X0 hx hby at_42 (pc' := 45) (feq (show ¬ ((p1 &&& (8 : Int32)) = (0 : Int32)) from fun q => hc42 (congrArg Int32.toInt q))).1 rfl ?_
          refine g_iconst X0 hx hby at_45 (pc' := 46) rfl (z := (1 : Int32)) rfl ?_
          refine g_goto X0 hx hby at_46 (pc' := 50) (by decide) (by decide) ?_
          refine g_istore X0 hx hby at_50 (pc' := 52) rfl (L' := #[.val (.int p1), .val (.int p2), .val (.int p3), .val (.int kd), .val (.int (1 : Int32)), .val (.int (0 : Int32)), .val (.int (1 : Int32)), .unset, .unset, .unset, .unset, .unset, .unset, .unset, .unset]) rfl ?_
          exact J52 ((1 : Int32)) (Or.inr rfl)
      · refine g_ifNo X0 hx hby at_28 (pc' := 31) (feq (show ¬ ((p1 &&& (4 : Int32)) = (0 : Int32)) from fun q => hc28 (congrArg Int32.toInt q))).1 rfl ?_
        refine g_iconst X0 hx hby at_31 (pc' := 32) rfl (z := (1 : Int32)) rfl ?_
        refine g_goto X0 hx hby at_32 (pc' := 36) (by decide) (by decide) ?_
        refine g_istore X0 hx hby at_36 (pc' := 38) rfl (L' := #[.val (.int p1), .val (.int p2), .val (.int p3), .val (.int kd), .val (.int (1 : Int32)), .val (.int (1 : Int32)), .unset, .unset, .unset, .unset, .unset, .unset, .unset, .unset, .unset]) rfl ?_
        refine Go.join (α := Int32) (P := fun x => (fun (av : Int32) => av = (0 : Int32) ∨ av = (1 : Int32)) x) (F := fun x => (fun (av : Int32) => T0.setTop (mkF m 52 #[.val (.int p1), .val (.int p2), .val (.int p3), .val (.int kd), .val (.int (1 : Int32)), .val (.int (1 : Int32)), .val (.int av), .unset, .unset, .unset, .unset, .unset, .unset, .unset, .unset] [])) x) ?_ ?_
        · rintro av hJ52
          show Go p.tables e below s _ _ _ (T0.setTop (mkF m 52 #[.val (.int p1), .val (.int p2), .val (.int p3), .val (.int kd), .val (.int (1 : Int32)), .val (.int (1 : Int32)), .val (.int av), .unset, .unset, .unset, .unset, .unset, .unset, .unset, .unset] []))
          refine Go.join (α := Int32) (P := fun x => (fun (ra : Int32) => ra = (0 : Int32) ∨ ra = (1 : Int32)) x) (F := fun x => (fun (ra : Int32) => T0.setTop (mkF m 66 #[.val (.int p1), .val (.int p2), .val (.int p3), .val (.int kd), .val (.int (1 : Int32)), .val (.int (1 : Int32)), .val (.int av), .val (.int ra), .unset, .unset, .unset, .unset, .unset, .unset, .unset] [])) x) ?_ ?_
          · rintro ra hJ66
            show Go p.tables e below s _ _ _ (T0.setTop (mkF m 66 #[.val (.int p1), .val (.int p2), .val (.int p3), .val (.int kd), .val (.int (1 : Int32)), .val (.int (1 : Int32)), .val (.int av), .val (.int ra), .unset, .unset, .unset, .unset, .unset, .unset, .unset] []))
            refine g_iconst X0 hx hby at_66 (pc' := 67) rfl (z := (1 : Int32)) rfl ?_
            refine Go.newarr X0 hx hZ (n := 1) (cap := 1) (ty := .int) rfl (wi hw 0 rfl) e0 (by decide) rfl (by decide) (by decide) (by decide) (by decide) (hb hby at_67) (pc' := 69) rfl ?_
            intro T607 h607 b607 X607 e607 E607 hb607 V607
            have g608 : n0 ≤ b607 := by rw [hb607]; exact Z0
            have V609 : ArF Z h607 b607 .int 1 (fun i => .int ((fun _ => (0 : Int32)) i)) := V607
            refine g_dup X607 hx hby at_69 (pc' := 70) rfl rfl ?_
            refine g_iconst X607 hx hby at_70 (pc' := 71) rfl (z := (0 : Int32)) rfl ?_
            refine g_iconst X607 hx hby at_71 (pc' := 72) rfl (z := (0 : Int32)) rfl ?_
            refine Go.iastore X607 hx hZ e607 V609 (k := 0) rfl (by decide) (hb hby at_72) (pc' := 73) rfl ?_
            intro T610 h610 X610 e610 W610 V610
            refine g_astore X610 hx hby at_73 (pc' := 75) rfl rfl (L' := #[.val (.int p1), .val (.int p2), .val (.int p3), .val (.int kd), .val (.int (1 : Int32)), .val (.int (1 : Int32)), .val (.int av), .val (.int ra), .val (.ref b607), .unset, .unset, .unset, .unset, .unset, .unset]) rfl ?_
            refine g_iconst X610 hx hby at_75 (pc' := 76) rfl (z := (4 : Int32)) rfl ?_
            refine Go.newarr X610 hx hZ (n := 4) (cap := 4) (ty := .long) rfl (wi hw 1 rfl) e610 (by decide) rfl (by decide) (by decide) (by decide) (by decide) (hb hby at_76) (pc' := 78) rfl ?_
            intro T611 h611 b611 X611 e611 E611 hb611 V611
            have g612 : n0 ≤ b611 := by rw [hb611]; exact (Nat.le_trans (Nat.le_trans Z0 E607.1) (Nat.le_of_eq (Wr.size W610).symm))
            have V613 : ArF Z h611 b611 .long 4 (fun i => .long ((fun _ => (0 : Int64)) i)) := V611
            refine g_astore X611 hx hby at_78 (pc' := 80) rfl rfl (L' := #[.val (.int p1), .val (.int p2), .val (.int p3), .val (.int kd), .val (.int (1 : Int32)), .val (.int (1 : Int32)), .val (.int av), .val (.int ra), .val (.ref b607), .val (.ref b611), .unset, .unset, .unset, .unset, .unset]) rfl ?_
            refine g_iconst X611 hx hby at_80 (pc' := 81) rfl (z := (0 : Int32)) rfl ?_
            refine g_istore X611 hx hby at_81 (pc' := 83) rfl (L' := #[.val (.int p1), .val (.int p2), .val (.int p3), .val (.int kd), .val (.int (1 : Int32)), .val (.int (1 : Int32)), .val (.int av), .val (.int ra), .val (.ref b607), .val (.ref b611), .val (.int (0 : Int32)), .unset, .unset, .unset, .unset]) rfl ?_
            refine g_iload X611 hx hby at_83 (pc' := 85) rfl rfl ?_
            have hc85 : ¬ ((1 : Int) = (0 : Int)) := by decide
            refine g_ifYes X611 hx hby at_85 (pc' := 97) (feq (show ¬ ((1 : Int32) = (0 : Int32)) from fun q => hc85 (congrArg Int32.toInt q))).2 (by decide) (by decide) ?_
            refine g_aload X611 hx hby at_97 (pc' := 99) rfl rfl rfl ?_
            refine g_iload X611 hx hby at_99 (pc' := 101) rfl rfl ?_
            refine Go.of (fun _ k => XS.lconst X611.here hx rfl (hb hby at_101) k) ?_
            show Go p.tables e below s _ _ _ (T611.setTop (mkF m 102 #[.val (.int p1), .val (.int p2), .val (.int p3), .val (.int kd), .val (.int (1 : Int32)), .val (.int (1 : Int32)), .val (.int av), .val (.int ra), .val (.ref b607), .val (.ref b611), .val (.int (0 : Int32)), .unset, .unset, .unset, .unset] [(.long (1 : Int64)), (.int (0 : Int32)), (.ref b611)]))
            refine Go.lastore X611 hx hZ e611 V613 (k := 0) rfl (by decide) (hb hby at_102) (pc' := 103) rfl ?_
            intro T614 h614 X614 e614 W614 V614
            refine g_iinc X614 hx hby at_103 (pc' := 106) rfl rfl (L' := #[.val (.int p1), .val (.int p2), .val (.int p3), .val (.int kd), .val (.int (1 : Int32)), .val (.int (1 : Int32)), .val (.int av), .val (.int ra), .val (.ref b607), .val (.ref b611), .val (.int (1 : Int32)), .unset, .unset, .unset, .unset]) rfl ?_
            refine g_iload X614 hx hby at_106 (pc' := 108) rfl rfl ?_
            have hc108 : ¬ ((1 : Int) = (0 : Int)) := by decide
            refine g_ifYes X614 hx hby at_108 (pc' := 122) (feq (show ¬ ((1 : Int32) = (0 : Int32)) from fun q => hc108 (congrArg Int32.toInt q))).2 (by decide) (by decide) ?_
            have V615 : ArF Z h614 b611 .long 4 (fun i => .long ((own_lj [(1 : Int64), (0 : Int64), (0 : Int64), (0 : Int64)]) i)) := V614.congr (fun i hi => congrArg Value.long ((by decide : ∀ i, i < 4 → (own_lj [(1 : Int64), (0 : Int64), (0 : Int64), (0 : Int64)]) i = (upJ (fun _ => (0 : Int64)) 0 (1 : Int64)) i) i hi))
            have ne616 : b607 ≠ b611 := Nat.ne_of_lt (by rw [hb611]; exact V610.lt)
            have f617 := ((V610.ext E611).other W614 ne616)
            have V618 : ArF Z h614 b607 .int 1 (fun i => .int ((own_l [(0 : Int32)]) i)) := f617.congr (fun i hi => congrArg Value.int ((by decide : ∀ i, i < 1 → (own_l [(0 : Int32)]) i = (upI (fun _ => (0 : Int32)) 0 (0 : Int32)) i) i hi))
            refine Go.join (α := State × (List Loc) × Heap × Int32 × (Nat → Int64)) (P := fun x => (fun (Tj138 : State) (Lj138 : List Loc) (hj138 : Heap) (nv : Int32) (gE : Nat → Int64) => Stand p l e room_1 s m #[(.int p1), (.int p2), (.int p3)] below meth c Tj138 Lj138 2 5 ∧ Tj138.heap = hj138 ∧ Fr n0 Lj138 ∧ n0 ≤ hj138.size ∧ ArF Z hj138 b607 .int 1 (fun i => .int ((own_l [(0 : Int32)]) i)) ∧ ArF Z hj138 b611 .long 4 (fun i => .long (gE i)) ∧ ((av = (0 : Int32) ∧ nv = (1 : Int32) ∧ gE = (own_lj [(1 : Int64), (0 : Int64), (0 : Int64), (0 : Int64)])) ∨ (av = (1 : Int32) ∧ nv = (2 : Int32) ∧ gE = (own_lj [(1 : Int64), (3 : Int64), (0 : Int64), (0 : Int64)])))) x.1 x.2.1 x.2.2.1 x.2.2.2.1 x.2.2.2.2) (F := fun x => (fun (Tj138 : State) (Lj138 : List Loc) (hj138 : Heap) (nv : Int32) (gE : Nat → Int64) => Tj138.setTop (mkF m 138 #[.val (.int p1), .val (.int p2), .val (.int p3), .val (.int kd), .val (.int (1 : Int32)), .val (.int (1 : Int32)), .val (.int av), .val (.int ra), .val (.ref b607), .val (.ref b611), .val (.int nv), .unset, .unset, .unset, .unset] [])) x.1 x.2.1 x.2.2.1 x.2.2.2.1 x.2.2.2.2) ?_ ?_
            · rintro ⟨Tj138, Lj138, hj138, nv, gE⟩ hP138
              obtain ⟨Xj138, ej138, Nj138, zj138, fj138_0, fj138_1, hJ138⟩ : Stand p l e room_1 s m #[(.int p1), (.int p2), (.int p3)] below meth c Tj138 Lj138 2 5 ∧ Tj138.heap = hj138 ∧ Fr n0 Lj138 ∧ n0 ≤ hj138.size ∧ ArF Z hj138 b607 .int 1 (fun i => .int ((own_l [(0 : Int32)]) i)) ∧ ArF Z hj138 b611 .long 4 (fun i => .long (gE i)) ∧ ((av = (0 : Int32) ∧ nv = (1 : Int32) ∧ gE = (own_lj [(1 : Int64), (0 : Int64), (0 : Int64), (0 : Int64)])) ∨ (av = (1 : Int32) ∧ nv = (2 : Int32) ∧ gE = (own_lj [(1 : Int64), (3 : Int64), (0 : Int64), (0 : Int64)]))) := hP138
              show Go p.tables e below s _ _ _ (Tj138.setTop (mkF m 138 #[.val (.int p1), .val (.int p2), .val (.int p3), .val (.int kd), .val (.int (1 : Int32)), .val (.int (1 : Int32)), .val (.int av), .val (.int ra), .val (.ref b607), .val (.ref b611), .val (.int nv), .unset, .unset, .unset, .unset] []))
              refine g_iloadN Xj138 hx hby at_138 (pc' := 139) rfl rfl ?_
              refine g_ldcI Xj138 hx hby hZ hown (wi hw 3 rfl) at_139 (pc' := 141) rfl ?_
              refine g_iand Xj138 hx hby at_141 (pc' := 142) rfl rfl ?_
              refine g_iload Xj138 hx hby at_142 (pc' := 144) rfl rfl ?_
              refine g_irem Xj138 hx hby at_144 (pc' := 145) rfl (by rcases hJ138 with ⟨_, rfl, _⟩ | ⟨_, rfl, _⟩ <;> decide) rfl ?_
              generalize hv619 : ((p2 &&& (2147483647 : Int32)) % nv) = v619
              refine g_istore Xj138 hx hby at_145 (pc' := 147) rfl (L' := #[.val (.int p1), .val (.int p2), .val (.int p3), .val (.int kd), .val (.int (1 : Int32)), .val (.int (1 : Int32)), .val (.int av), .val (.int ra), .val (.ref b607), .val (.ref b611), .val (.int nv), .val (.int v619), .unset, .unset, .unset]) rfl ?_
              refine Go.join (α := State × (List Loc) × Heap × Int32 × Int32 × Int32 × Addr × Addr × Addr × Addr) (P := fun x => (fun (Tj246a0 : State) (Lj246a0 : List Loc) (hj246a0 : Heap) (k3 : Int32) (r13 : Int32) (r14 : Int32) (oa : Addr) (xa : Addr) (xb : Addr) (xk : Addr) => Stand p l e room_1 s m #[(.int p1), (.int p2), (.int p3)] below meth c Tj246a0 Lj246a0 22 80 ∧ Tj246a0.heap = hj246a0 ∧ Fr n0 Lj246a0 ∧ n0 ≤ hj246a0.size ∧ Exa Z hj246a0 oa kES ∧ Fld Z hj246a0 oa kES "sources" "[I" (.ref xa) ∧ Fld Z hj246a0 oa kES "targets" "[I" (.ref xb) ∧ Fld Z hj246a0 oa kES "bound" "I" (.int (1 : Int32)) ∧ Fld Z hj246a0 oa kES "count" "I" (.int (1 : Int32)) ∧ Fld Z hj246a0 oa kES "keptNumbers" "[J" (.ref xk) ∧ Fld Z hj246a0 oa kES "nextNumber" "J" (.long (3 : Int64)) ∧ ArF Z hj246a0 xa .int 4 (fun i => .int ((own_l [(0 : Int32), (-1 : Int32), (0 : Int32), (0 : Int32)]) i)) ∧ ArF Z hj246a0 xb .int 4 (fun i => .int ((own_l [(0 : Int32), (-1 : Int32), (0 : Int32), (0 : Int32)]) i)) ∧ ArF Z hj246a0 xk .long 1 (fun i => .long ((own_lj [(1 : Int64)]) i)) ∧ ArF Z hj246a0 b611 .long 4 (fun i => .long (gE i)) ∧ (xa ≠ oa ∧ xb ≠ oa ∧ xa ≠ xb ∧ xk ≠ oa ∧ xk ≠ xa ∧ xk ≠ xb ∧ b611 ≠ oa ∧ b611 ≠ xa ∧ b611 ≠ xb ∧ n0 ≤ oa ∧ n0 ≤ xa ∧ n0 ≤ xb ∧ av = (0 : Int32))) x.1 x.2.1 x.2.2.1 x.2.2.2.1 x.2.2.2.2.1 x.2.2.2.2.2.1 x.2.2.2.2.2.2.1 x.2.2.2.2.2.2.2.1 x.2.2.2.2.2.2.2.2.1 x.2.2.2.2.2.2.2.2.2) (F := fun x => (fun (Tj246a0 : State) (Lj246a0 : List Loc) (hj246a0 : Heap) (k3 : Int32) (r13 : Int32) (r14 : Int32) (oa : Addr) (xa : Addr) (xb : Addr) (xk : Addr) => Tj246a0.setTop (mkF m 246 #[.val (.int p1), .val (.int p2), .val (.int p3), .val (.int k3), .val (.int (1 : Int32)), .val (.int (1 : Int32)), .val (.int av), .val (.int ra), .val (.ref b607), .val (.ref b611), .val (.int nv), .val (.int v619), .val (.ref oa), .val (.int r13), .val (.int r14)] [])) x.1 x.2.1 x.2.2.1 x.2.2.2.1 x.2.2.2.2.1 x.2.2.2.2.2.1 x.2.2.2.2.2.2.1 x.2.2.2.2.2.2.2.1 x.2.2.2.2.2.2.2.2.1 x.2.2.2.2.2.2.2.2.2) ?_ ?_
              · rintro ⟨Tj246a0, Lj246a0, hj246a0, k3, r13, r14, oa, xa, xb, xk⟩ hP246a0
                obtain ⟨Xj246a0, ej246a0, Nj246a0, zj246a0, fj246a0_0, fj246a0_1, fj246a0_2, fj246a0_3, fj246a0_4, fj246a0_5, fj246a0_6, fj246a0_7, fj246a0_8, fj246a0_9, fj246a0_10, hJ246a0⟩ : Stand p l e room_1 s m #[(.int p1), (.int p2), (.int p3)] below meth c Tj246a0 Lj246a0 22 80 ∧ Tj246a0.heap = hj246a0 ∧ Fr n0 Lj246a0 ∧ n0 ≤ hj246a0.size ∧ Exa Z hj246a0 oa kES ∧ Fld Z hj246a0 oa kES "sources" "[I" (.ref xa) ∧ Fld Z hj246a0 oa kES "targets" "[I" (.ref xb) ∧ Fld Z hj246a0 oa kES "bound" "I" (.int (1 : Int32)) ∧ Fld Z hj246a0 oa kES "count" "I" (.int (1 : Int32)) ∧ Fld Z hj246a0 oa kES "keptNumbers" "[J" (.ref xk) ∧ Fld Z hj246a0 oa kES "nextNumber" "J" (.long (3 : Int64)) ∧ ArF Z hj246a0 xa .int 4 (fun i => .int ((own_l [(0 : Int32), (-1 : Int32), (0 : Int32), (0 : Int32)]) i)) ∧ ArF Z hj246a0 xb .int 4 (fun i => .int ((own_l [(0 : Int32), (-1 : Int32), (0 : Int32), (0 : Int32)]) i)) ∧ ArF Z hj246a0 xk .long 1 (fun i => .long ((own_lj [(1 : Int64)]) i)) ∧ ArF Z hj246a0 b611 .long 4 (fun i => .long (gE i)) ∧ (xa ≠ oa ∧ xb ≠ oa ∧ xa ≠ xb ∧ xk ≠ oa ∧ xk ≠ xa ∧ xk ≠ xb ∧ b611 ≠ oa ∧ b611 ≠ xa ∧ b611 ≠ xb ∧ n0 ≤ oa ∧ n0 ≤ xa ∧ n0 ≤ xb ∧ av = (0 : Int32)) := hP246a0
                show Go p.tables e below s _ _ _ (Tj246a0.setTop (mkF m 246 #[.val (.int p1), .val (.int p2), .val (.int p3), .val (.int k3), .val (.int (1 : Int32)), .val (.int (1 : Int32)), .val (.int av), .val (.int ra), .val (.ref b607), .val (.ref b611), .val (.int nv), .val (.int v619), .val (.ref oa), .val (.int r13), .val (.int r14)] []))
                obtain ⟨nn0, nn1, nn2, nn3, nn4, nn5, nn6, nn7, nn8, gg0, gg1, gg2, hav⟩ := hJ246a0
                have hnv : nv = (1 : Int32) ∧ gE = (own_lj [(1 : Int64), (0 : Int64), (0 : Int64), (0 : Int64)]) := by
                  rcases hJ138 with ⟨hA, h1, h2⟩ | ⟨hA, h1, h2⟩
                  · exact ⟨h1, h2⟩
                  · rw [hav] at hA; exact absurd hA (by decide)
                obtain ⟨rfl, rfl⟩ := hnv
                refine Go.join (α := State × (List Loc) × Heap × Unit) (P := fun x => (fun (Tj257 : State) (Lj257 : List Loc) (hj257 : Heap) (uu : Unit) => Stand p l e room_1 s m #[(.int p1), (.int p2), (.int p3)] below meth c Tj257 Lj257 22 80 ∧ Tj257.heap = hj257 ∧ Fr n0 Lj257 ∧ n0 ≤ hj257.size ∧ Exa Z hj257 oa kES ∧ Fld Z hj257 oa kES "bound" "I" (.int (1 : Int32)) ∧ Fld Z hj257 oa kES "keptNumbers" "[J" (.ref xk) ∧ Fld Z hj257 oa kES "nextNumber" "J" (.long (3 : Int64)) ∧ ArF Z hj257 xk .long 1 (fun i => .long ((own_lj [(1 : Int64)]) i)) ∧ ArF Z hj257 b611 .long 4 (fun i => .long ((own_lj [(1 : Int64), (0 : Int64), (0 : Int64), (0 : Int64)]) i)) ∧ (True)) x.1 x.2.1 x.2.2.1 x.2.2.2) (F := fun x => (fun (Tj257 : State) (Lj257 : List Loc) (hj257 : Heap) (uu : Unit) => Tj257.setTop (mkF m 257 #[.val (.int p1), .val (.int p2), .val (.int p3), .val (.int k3), .val (.int (1 : Int32)), .val (.int (1 : Int32)), .val (.int av), .val (.int ra), .val (.ref b607), .val (.ref b611), .val (.int (1 : Int32)), .val (.int v619), .val (.ref oa), .val (.int r13), .val (.int r14)] [])) x.1 x.2.1 x.2.2.1 x.2.2.2) ?_ ?_
                · rintro ⟨Tj257, Lj257, hj257, uu⟩ hP257
                  obtain ⟨Xj257, ej257, Nj257, zj257, fj257_0, fj257_1, fj257_2, fj257_3, fj257_4, fj257_5, hJ257⟩ : Stand p l e room_1 s m #[(.int p1), (.int p2), (.int p3)] below meth c Tj257 Lj257 22 80 ∧ Tj257.heap = hj257 ∧ Fr n0 Lj257 ∧ n0 ≤ hj257.size ∧ Exa Z hj257 oa kES ∧ Fld Z hj257 oa kES "bound" "I" (.int (1 : Int32)) ∧ Fld Z hj257 oa kES "keptNumbers" "[J" (.ref xk) ∧ Fld Z hj257 oa kES "nextNumber" "J" (.long (3 : Int64)) ∧ ArF Z hj257 xk .long 1 (fun i => .long ((own_lj [(1 : Int64)]) i)) ∧ ArF Z hj257 b611 .long 4 (fun i => .long ((own_lj [(1 : Int64), (0 : Int64), (0 : Int64), (0 : Int64)]) i)) ∧ (True) := hP257
                  show Go p.tables e below s _ _ _ (Tj257.setTop (mkF m 257 #[.val (.int p1), .val (.int p2), .val (.int p3), .val (.int k3), .val (.int (1 : Int32)), .val (.int (1 : Int32)), .val (.int av), .val (.int ra), .val (.ref b607), .val (.ref b611), .val (.int (1 : Int32)), .val (.int v619), .val (.ref oa), .val (.int r13), .val (.int r14)] []))
                  have hv : v619 = (0 : Int32) := by
                    have : v619.toInt = 0 := by rw [← hv619]; have : (0 ≤ (p2 &&& (2147483647 : Int32)).toInt → ((p2 &&& (2147483647 : Int32)) % (1 : Int32)).toInt = (p2 &&& (2147483647 : Int32)).toInt % 1) ∧ ((p2 &&& (2147483647 : Int32)).toInt < 0 → ((p2 &&& (2147483647 : Int32)) % (1 : Int32)).toInt = -((-(p2 &&& (2147483647 : Int32)).toInt) % 1)) := c_irem _ _ 1 rfl; have : -2147483648 ≤ ((p2 &&& (2147483647 : Int32)) % (1 : Int32)).toInt ∧ ((p2 &&& (2147483647 : Int32)) % (1 : Int32)).toInt < 2147483648 := rng32 _; have : (p2 &&& (2147483647 : Int32)).toInt = p2.toInt % 2147483648 := c_mask _ _ 31 (by decide) (by decide); have : -2147483648 ≤ (p2 &&& (2147483647 : Int32)).toInt ∧ (p2 &&& (2147483647 : Int32)).toInt < 2147483648 := rng32 _; have : -2147483648 ≤ p2.toInt ∧ p2.toInt < 2147483648 := rng32 _; omega
                    exact Int32.toInt_inj.mp this
                  clear hv619
                  rcases hv with rfl
                  · show Go p.tables e below s _ _ _ (Tj257.setTop (mkF m 257 #[.val (.int p1), .val (.int p2), .val (.int p3), .val (.int k3), .val (.int (1 : Int32)), .val (.int (1 : Int32)), .val (.int av), .val (.int ra), .val (.ref b607), .val (.ref b611), .val (.int (1 : Int32)), .val (.int (0 : Int32)), .val (.ref oa), .val (.int r13), .val (.int r14)] []))
                    refine g_aload Xj257 hx hby at_257 (pc' := 259) rfl rfl rfl ?_
                    refine g_iload Xj257 hx hby at_259 (pc' := 261) rfl rfl ?_
                    refine Go.callV Xj257 hx hZ hown (wi hw 82 rfl) (wi hw 83 rfl) (notFace_of_selects (args := #[]) (mvT hZ (wi hw 85 rfl))) (wi hw 85 rfl) (wi hw 84 rfl) (wi hw 6 rfl) (wi hw 86 rfl) (by decide) ej257 (a := oa) (argsL := [(.int (0 : Int32))]) (rest := []) (W := 0) fj257_0 (rm_numB l Z a0 hw oa (0 : Int32) xk 1 (own_lj [(1 : Int64)]) 0 hj257 n0 zj257 fj257_2 fj257_4 rfl (by decide)) (hb hby at_261) (by rw [hml]; rfl) rfl pd6 rfl rfl (by decide) (by decide) (by decide) (by decide) ?_
                    intro v620 T620 L620 X620 hQ620
                    obtain ⟨rfl, Nq620, hh620⟩ := hQ620
                    have N620 := Fr.app Nj257 Nq620
                    show Go p.tables e below s _ _ _ (T620.setTop (mkF m 264 #[.val (.int p1), .val (.int p2), .val (.int p3), .val (.int k3), .val (.int (1 : Int32)), .val (.int (1 : Int32)), .val (.int av), .val (.int ra), .val (.ref b607), .val (.ref b611), .val (.int (1 : Int32)), .val (.int (0 : Int32)), .val (.ref oa), .val (.int r13), .val (.int r14)] [(.long (1 : Int64))]))
                    refine g_aload X620 hx hby at_264 (pc' := 266) rfl rfl rfl ?_
                    refine g_iload X620 hx hby at_266 (pc' := 268) rfl rfl ?_
                    refine Go.laload X620 hx hZ hh620 fj257_5 (k := 0) rfl (by decide) (v := (1 : Int64)) rfl (hb hby at_268) (pc' := 269) rfl ?_
                    refine g_lcmp X620 hx hby at_269 (pc' := 270) rfl  ?_
                    have hc270 : (1 : Int) = (1 : Int) := by decide
                    refine g_ifNo X620 hx hby at_270 (pc' := 273) (teq (show (lcmpW (1 : Int64) (1 : Int64)) = (0 : Int32) from (lw_eq (1 : Int64) (1 : Int64)).mpr (Int64.toInt_inj.mp hc270))).2 rfl ?_
                    refine g_iconst X620 hx hby at_273 (pc' := 274) rfl (z := (1 : Int32)) rfl ?_
                    refine g_goto X620 hx hby at_274 (pc' := 278) (by decide) (by decide) ?_
                    refine Go.retZ X620 hx hlk hret (by simp) (hb hby at_278) (by decide) (by decide) ?_
                    exact ⟨rfl, N620⟩
                intro J257
                rcases hJ66 with rfl | rfl
                · show Go p.tables e below s _ _ _ (Tj246a0.setTop (mkF m 246 #[.val (.int p1), .val (.int p2), .val (.int p3), .val (.int k3), .val (.int (1 : Int32)), .val (.int (1 : Int32)), .val (.int av), .val (.int (0 : Int32)), .val (.ref b607), .val (.ref b611), .val (.int (1 : Int32)), .val (.int v619), .val (.ref oa), .val (.int r13), .val (.int r14)] []))
                  refine g_iload Xj246a0 hx hby at_246 (pc' := 248) rfl rfl ?_
                  have hc248 : (0 : Int) = (0 : Int) := by decide
                  refine g_ifYes Xj246a0 hx hby at_248 (pc' := 257) (teq (show (0 : Int32) = (0 : Int32) from Int32.toInt_inj.mp hc248)).1 (by decide) (by decide) ?_
                  exact J257 (Tj246a0, _, hj246a0, ()) ⟨Xj246a0.more (by decide) (by decide), ej246a0, Nj246a0, zj246a0, fj246a0_0, fj246a0_3, fj246a0_5, fj246a0_6, fj246a0_9, fj246a0_10, (show True from trivial)⟩
                · show Go p.tables e below s _ _ _ (Tj246a0.setTop (mkF m 246 #[.val (.int p1), .val (.int p2), .val (.int p3), .val (.int k3), .val (.int (1 : Int32)), .val (.int (1 : Int32)), .val (.int av), .val (.int (1 : Int32)), .val (.ref b607), .val (.ref b611), .val (.int (1 : Int32)), .val (.int v619), .val (.ref oa), .val (.int r13), .val (.int r14)] []))
                  refine g_iload Xj246a0 hx hby at_246 (pc' := 248) rfl rfl ?_
                  have hc248 : ¬ ((1 : Int) = (0 : Int)) := by decide
                  refine g_ifNo Xj246a0 hx hby at_248 (pc' := 251) (feq (show ¬ ((1 : Int32) = (0 : Int32)) from fun q => hc248 (congrArg Int32.toInt q))).1 rfl ?_
                  refine g_aload Xj246a0 hx hby at_251 (pc' := 253) rfl rfl rfl ?_
                  refine g_iconst Xj246a0 hx hby at_253 (pc' := 254) rfl (z := (0 : Int32)) rfl ?_
                  refine Go.callV Xj246a0 hx hZ hown (wi hw 87 rfl) (wi hw 88 rfl) (notFace_of_selects (args := #[]) (mvT hZ (wi hw 90 rfl))) (wi hw 90 rfl) (wi hw 89 rfl) (wi hw 6 rfl) (wi hw 91 rfl) (by decide) ej246a0 (a := oa) (argsL := [(.int (0 : Int32))]) (rest := []) (W := 0) fj246a0_0 (rm_remove4s l Z a0 hw oa (0 : Int32) xa xb (own_l [(0 : Int32), (-1 : Int32), (0 : Int32), (0 : Int32)]) (own_l [(0 : Int32), (-1 : Int32), (0 : Int32), (0 : Int32)]) (1 : Int32) (1 : Int32) 0 xk (3 : Int64) hj246a0 n0 zj246a0 fj246a0_0 fj246a0_1 fj246a0_2 fj246a0_7 fj246a0_8 fj246a0_3 fj246a0_4 fj246a0_5 fj246a0_6 nn0 nn1 nn2 gg0 gg1 gg2 rfl (by decide)) (hb hby at_254) (by rw [hml]; rfl) rfl pd5 rfl rfl (by decide) (by decide) (by decide) (by decide) ?_
                  intro v621 T621 L621 X621 hQ621
                  obtain ⟨h621, e621⟩ : ∃ z, T621.heap = z := ⟨_, rfl⟩
                  rw [e621] at hQ621
                  obtain ⟨rfl, Nq621, Kq621, Fq0_621, Fq1_621, Fq2_621, Fq3_621, Fq4_621, Fq5_621, Fq6_621, Fq7_621⟩ := hQ621
                  have N621 := Fr.app Nj246a0 Nq621
                  have Fq5_621 : Fld Z h621 oa kES "count" "I" (.int (0 : Int32)) := Fq5_621
                  refine Go.void (pc' := 257) rfl ?_
                  have f622 := fj246a0_0.keep Kq621
                  have f623 := (fj246a0_9.keep Kq621 (ninS nn3 (ninS nn4 (ninS nn5 nin0))))
                  have f624 := (fj246a0_10.keep Kq621 (ninS nn6 (ninS nn7 (ninS nn8 nin0))))
                  exact J257 (T621, _, h621, ()) ⟨X621.more (by decide) (by decide), e621, N621, (Nat.le_trans zj246a0 Kq621.1), f622, Fq4_621, Fq6_621, Fq7_621, f623, f624, (show True from trivial)⟩
              intro J246a0
              refine Go.join (α := State × (List Loc) × Heap × Int32 × Int32 × Int32 × Addr × Addr × Addr × Addr) (P := fun x => (fun (Tj246a1 : State) (Lj246a1 : List Loc) (hj246a1 : Heap) (k3 : Int32) (r13 : Int32) (r14 : Int32) (oa : Addr) (xa : Addr) (xb : Addr) (xk : Addr) => Stand p l e room_1 s m #[(.int p1), (.int p2), (.int p3)] below meth c Tj246a1 Lj246a1 22 80 ∧ Tj246a1.heap = hj246a1 ∧ Fr n0 Lj246a1 ∧ n0 ≤ hj246a1.size ∧ Exa Z hj246a1 oa kES ∧ Fld Z hj246a1 oa kES "sources" "[I" (.ref xa) ∧ Fld Z hj246a1 oa kES "targets" "[I" (.ref xb) ∧ Fld Z hj246a1 oa kES "bound" "I" (.int (2 : Int32)) ∧ Fld Z hj246a1 oa kES "count" "I" (.int (2 : Int32)) ∧ Fld Z hj246a1 oa kES "keptNumbers" "[J" (.ref xk) ∧ Fld Z hj246a1 oa kES "nextNumber" "J" (.long (4 : Int64)) ∧ ArF Z hj246a1 xa .int 4 (fun i => .int ((own_l [(0 : Int32), (0 : Int32), (0 : Int32), (0 : Int32)]) i)) ∧ ArF Z hj246a1 xb .int 4 (fun i => .int ((own_l [(0 : Int32), (0 : Int32), (0 : Int32), (0 : Int32)]) i)) ∧ ArF Z hj246a1 xk .long 1 (fun i => .long ((own_lj [(1 : Int64)]) i)) ∧ ArF Z hj246a1 b611 .long 4 (fun i => .long (gE i)) ∧ (xa ≠ oa ∧ xb ≠ oa ∧ xa ≠ xb ∧ xk ≠ oa ∧ xk ≠ xa ∧ xk ≠ xb ∧ b611 ≠ oa ∧ b611 ≠ xa ∧ b611 ≠ xb ∧ n0 ≤ oa ∧ n0 ≤ xa ∧ n0 ≤ xb ∧ av = (1 : Int32))) x.1 x.2.1 x.2.2.1 x.2.2.2.1 x.2.2.2.2.1 x.2.2.2.2.2.1 x.2.2.2.2.2.2.1 x.2.2.2.2.2.2.2.1 x.2.2.2.2.2.2.2.2.1 x.2.2.2.2.2.2.2.2.2) (F := fun x => (fun (Tj246a1 : State) (Lj246a1 : List Loc) (hj246a1 : Heap) (k3 : Int32) (r13 : Int32) (r14 : Int32) (oa : Addr) (xa : Addr) (xb : Addr) (xk : Addr) => Tj246a1.setTop (mkF m 246 #[.val (.int p1), .val (.int p2), .val (.int p3), .val (.int k3), .val (.int (1 : Int32)), .val (.int (1 : Int32)), .val (.int av), .val (.int ra), .val (.ref b607), .val (.ref b611), .val (.int nv), .val (.int v619), .val (.ref oa), .val (.int r13), .val (.int r14)] [])) x.1 x.2.1 x.2.2.1 x.2.2.2.1 x.2.2.2.2.1 x.2.2.2.2.2.1 x.2.2.2.2.2.2.1 x.2.2.2.2.2.2.2.1 x.2.2.2.2.2.2.2.2.1 x.2.2.2.2.2.2.2.2.2) ?_ ?_
              · rintro ⟨Tj246a1, Lj246a1, hj246a1, k3, r13, r14, oa, xa, xb, xk⟩ hP246a1
                obtain ⟨Xj246a1, ej246a1, Nj246a1, zj246a1, fj246a1_0, fj246a1_1, fj246a1_2, fj246a1_3, fj246a1_4, fj246a1_5, fj246a1_6, fj246a1_7, fj246a1_8, fj246a1_9, fj246a1_10, hJ246a1⟩ : Stand p l e room_1 s m #[(.int p1), (.int p2), (.int p3)] below meth c Tj246a1 Lj246a1 22 80 ∧ Tj246a1.heap = hj246a1 ∧ Fr n0 Lj246a1 ∧ n0 ≤ hj246a1.size ∧ Exa Z hj246a1 oa kES ∧ Fld Z hj246a1 oa kES "sources" "[I" (.ref xa) ∧ Fld Z hj246a1 oa kES "targets" "[I" (.ref xb) ∧ Fld Z hj246a1 oa kES "bound" "I" (.int (2 : Int32)) ∧ Fld Z hj246a1 oa kES "count" "I" (.int (2 : Int32)) ∧ Fld Z hj246a1 oa kES "keptNumbers" "[J" (.ref xk) ∧ Fld Z hj246a1 oa kES "nextNumber" "J" (.long (4 : Int64)) ∧ ArF Z hj246a1 xa .int 4 (fun i => .int ((own_l [(0 : Int32), (0 : Int32), (0 : Int32), (0 : Int32)]) i)) ∧ ArF Z hj246a1 xb .int 4 (fun i => .int ((own_l [(0 : Int32), (0 : Int32), (0 : Int32), (0 : Int32)]) i)) ∧ ArF Z hj246a1 xk .long 1 (fun i => .long ((own_lj [(1 : Int64)]) i)) ∧ ArF Z hj246a1 b611 .long 4 (fun i => .long (gE i)) ∧ (xa ≠ oa ∧ xb ≠ oa ∧ xa ≠ xb ∧ xk ≠ oa ∧ xk ≠ xa ∧ xk ≠ xb ∧ b611 ≠ oa ∧ b611 ≠ xa ∧ b611 ≠ xb ∧ n0 ≤ oa ∧ n0 ≤ xa ∧ n0 ≤ xb ∧ av = (1 : Int32)) := hP246a1
                show Go p.tables e below s _ _ _ (Tj246a1.setTop (mkF m 246 #[.val (.int p1), .val (.int p2), .val (.int p3), .val (.int k3), .val (.int (1 : Int32)), .val (.int (1 : Int32)), .val (.int av), .val (.int ra), .val (.ref b607), .val (.ref b611), .val (.int nv), .val (.int v619), .val (.ref oa), .val (.int r13), .val (.int r14)] []))
                obtain ⟨nn0, nn1, nn2, nn3, nn4, nn5, nn6, nn7, nn8, gg0, gg1, gg2, hav⟩ := hJ246a1
                have hnv : nv = (2 : Int32) ∧ gE = (own_lj [(1 : Int64), (3 : Int64), (0 : Int64), (0 : Int64)]) := by
                  rcases hJ138 with ⟨hA, h1, h2⟩ | ⟨hA, h1, h2⟩
                  · rw [hav] at hA; exact absurd hA (by decide)
                  · exact ⟨h1, h2⟩
                obtain ⟨rfl, rfl⟩ := hnv
                refine Go.join (α := State × (List Loc) × Heap × Unit) (P := fun x => (fun (Tj257 : State) (Lj257 : List Loc) (hj257 : Heap) (uu : Unit) => Stand p l e room_1 s m #[(.int p1), (.int p2), (.int p3)] below meth c Tj257 Lj257 22 80 ∧ Tj257.heap = hj257 ∧ Fr n0 Lj257 ∧ n0 ≤ hj257.size ∧ Exa Z hj257 oa kES ∧ Fld Z hj257 oa kES "bound" "I" (.int (2 : Int32)) ∧ Fld Z hj257 oa kES "keptNumbers" "[J" (.ref xk) ∧ Fld Z hj257 oa kES "nextNumber" "J" (.long (4 : Int64)) ∧ ArF Z hj257 xk .long 1 (fun i => .long ((own_lj [(1 : Int64)]) i)) ∧ ArF Z hj257 b611 .long 4 (fun i => .long ((own_lj [(1 : Int64), (3 : Int64), (0 : Int64), (0 : Int64)]) i)) ∧ (True)) x.1 x.2.1 x.2.2.1 x.2.2.2) (F := fun x => (fun (Tj257 : State) (Lj257 : List Loc) (hj257 : Heap) (uu : Unit) => Tj257.setTop (mkF m 257 #[.val (.int p1), .val (.int p2), .val (.int p3), .val (.int k3), .val (.int (1 : Int32)), .val (.int (1 : Int32)), .val (.int av), .val (.int ra), .val (.ref b607), .val (.ref b611), .val (.int (2 : Int32)), .val (.int v619), .val (.ref oa), .val (.int r13), .val (.int r14)] [])) x.1 x.2.1 x.2.2.1 x.2.2.2) ?_ ?_
                · rintro ⟨Tj257, Lj257, hj257, uu⟩ hP257
                  obtain ⟨Xj257, ej257, Nj257, zj257, fj257_0, fj257_1, fj257_2, fj257_3, fj257_4, fj257_5, hJ257⟩ : Stand p l e room_1 s m #[(.int p1), (.int p2), (.int p3)] below meth c Tj257 Lj257 22 80 ∧ Tj257.heap = hj257 ∧ Fr n0 Lj257 ∧ n0 ≤ hj257.size ∧ Exa Z hj257 oa kES ∧ Fld Z hj257 oa kES "bound" "I" (.int (2 : Int32)) ∧ Fld Z hj257 oa kES "keptNumbers" "[J" (.ref xk) ∧ Fld Z hj257 oa kES "nextNumber" "J" (.long (4 : Int64)) ∧ ArF Z hj257 xk .long 1 (fun i => .long ((own_lj [(1 : Int64)]) i)) ∧ ArF Z hj257 b611 .long 4 (fun i => .long ((own_lj [(1 : Int64), (3 : Int64), (0 : Int64), (0 : Int64)]) i)) ∧ (True) := hP257
                  show Go p.tables e below s _ _ _ (Tj257.setTop (mkF m 257 #[.val (.int p1), .val (.int p2), .val (.int p3), .val (.int k3), .val (.int (1 : Int32)), .val (.int (1 : Int32)), .val (.int av), .val (.int ra), .val (.ref b607), .val (.ref b611), .val (.int (2 : Int32)), .val (.int v619), .val (.ref oa), .val (.int r13), .val (.int r14)] []))
                  have hv : v619 = (0 : Int32) ∨ v619 = (1 : Int32) := by
                    have : v619.toInt = 0 ∨ v619.toInt = 1 := by rw [← hv619]; have : (0 ≤ (p2 &&& (2147483647 : Int32)).toInt → ((p2 &&& (2147483647 : Int32)) % (2 : Int32)).toInt = (p2 &&& (2147483647 : Int32)).toInt % 2) ∧ ((p2 &&& (2147483647 : Int32)).toInt < 0 → ((p2 &&& (2147483647 : Int32)) % (2 : Int32)).toInt = -((-(p2 &&& (2147483647 : Int32)).toInt) % 2)) := c_irem _ _ 2 rfl; have : -2147483648 ≤ ((p2 &&& (2147483647 : Int32)) % (2 : Int32)).toInt ∧ ((p2 &&& (2147483647 : Int32)) % (2 : Int32)).toInt < 2147483648 := rng32 _; have : (p2 &&& (2147483647 : Int32)).toInt = p2.toInt % 2147483648 := c_mask _ _ 31 (by decide) (by decide); have : -2147483648 ≤ (p2 &&& (2147483647 : Int32)).toInt ∧ (p2 &&& (2147483647 : Int32)).toInt < 2147483648 := rng32 _; have : -2147483648 ≤ p2.toInt ∧ p2.toInt < 2147483648 := rng32 _; omega
                    rcases this with h | h
                    · exact Or.inl (Int32.toInt_inj.mp h)
                    · exact Or.inr ((Int32.toInt_inj.mp h))
                  clear hv619
                  rcases hv with rfl | rfl
                  · show Go p.tables e below s _ _ _ (Tj257.setTop (mkF m 257 #[.val (.int p1), .val (.int p2), .val (.int p3), .val (.int k3), .val (.int (1 : Int32)), .val (.int (1 : Int32)), .val (.int av), .val (.int ra), .val (.ref b607), .val (.ref b611), .val (.int (2 : Int32)), .val (.int (0 : Int32)), .val (.ref oa), .val (.int r13), .val (.int r14)] []))
                    refine g_aload Xj257 hx hby at_257 (pc' := 259) rfl rfl rfl ?_
                    refine g_iload Xj257 hx hby at_259 (pc' := 261) rfl rfl ?_
                    refine Go.callV Xj257 hx hZ hown (wi hw 82 rfl) (wi hw 83 rfl) (notFace_of_selects (args := #[]) (mvT hZ (wi hw 85 rfl))) (wi hw 85 rfl) (wi hw 84 rfl) (wi hw 6 rfl) (wi hw 86 rfl) (by decide) ej257 (a := oa) (argsL := [(.int (0 : Int32))]) (rest := []) (W := 0) fj257_0 (rm_numB l Z a0 hw oa (0 : Int32) xk 1 (own_lj [(1 : Int64)]) 0 hj257 n0 zj257 fj257_2 fj257_4 rfl (by decide)) (hb hby at_261) (by rw [hml]; rfl) rfl pd6 rfl rfl (by decide) (by decide) (by decide) (by decide) ?_
                    intro v625 T625 L625 X625 hQ625
                    obtain ⟨rfl, Nq625, hh625⟩ := hQ625
                    have N625 := Fr.app Nj257 Nq625
                    show Go p.tables e below s _ _ _ (T625.setTop (mkF m 264 #[.val (.int p1), .val (.int p2), .val (.int p3), .val (.int k3), .val (.int (1 : Int32)), .val (.int (1 : Int32)), .val (.int av), .val (.int ra), .val (.ref b607), .val (.ref b611), .val (.int (2 : Int32)), .val (.int (0 : Int32)), .val (.ref oa), .val (.int r13), .val (.int r14)] [(.long (1 : Int64))]))
                    refine g_aload X625 hx hby at_264 (pc' := 266) rfl rfl rfl ?_
                    refine g_iload X625 hx hby at_266 (pc' := 268) rfl rfl ?_
                    refine Go.laload X625 hx hZ hh625 fj257_5 (k := 0) rfl (by decide) (v := (1 : Int64)) rfl (hb hby at_268) (pc' := 269) rfl ?_
                    refine g_lcmp X625 hx hby at_269 (pc' := 270) rfl  ?_
                    have hc270 : (1 : Int) = (1 : Int) := by decide
                    refine g_ifNo X625 hx hby at_270 (pc' := 273) (teq (show (lcmpW (1 : Int64) (1 : Int64)) = (0 : Int32) from (lw_eq (1 : Int64) (1 : Int64)).mpr (Int64.toInt_inj.mp hc270))).2 rfl ?_
                    refine g_iconst X625 hx hby at_273 (pc' := 274) rfl (z := (1 : Int32)) rfl ?_
                    refine g_goto X625 hx hby at_274 (pc' := 278) (by decide) (by decide) ?_
                    refine Go.retZ X625 hx hlk hret (by simp) (hb hby at_278) (by decide) (by decide) ?_
                    exact ⟨rfl, N625⟩
                  · show Go p.tables e below s _ _ _ (Tj257.setTop (mkF m 257 #[.val (.int p1), .val (.int p2), .val (.int p3), .val (.int k3), .val (.int (1 : Int32)), .val (.int (1 : Int32)), .val (.int av), .val (.int ra), .val (.ref b607), .val (.ref b611), .val (.int (2 : Int32)), .val (.int (1 : Int32)), .val (.ref oa), .val (.int r13), .val (.int r14)] []))
                    refine g_aload Xj257 hx hby at_257 (pc' := 259) rfl rfl rfl ?_
                    refine g_iload Xj257 hx hby at_259 (pc' := 261) rfl rfl ?_
                    refine Go.callV Xj257 hx hZ hown (wi hw 82 rfl) (wi hw 83 rfl) (notFace_of_selects (args := #[]) (mvT hZ (wi hw 85 rfl))) (wi hw 85 rfl) (wi hw 84 rfl) (wi hw 6 rfl) (wi hw 86 rfl) (by decide) ej257 (a := oa) (argsL := [(.int (1 : Int32))]) (rest := []) (W := 0) fj257_0 (rm_numA l Z a0 hw oa (1 : Int32) xk (2 : Int32) (4 : Int64) 1 (own_lj [(1 : Int64)]) hj257 n0 zj257 fj257_2 fj257_1 fj257_3 fj257_4 (by decide)) (hb hby at_261) (by rw [hml]; rfl) rfl pd6 rfl rfl (by decide) (by decide) (by decide) (by decide) ?_
                    intro v626 T626 L626 X626 hQ626
                    obtain ⟨rfl, Nq626, hh626⟩ := hQ626
                    have N626 := Fr.app Nj257 Nq626
                    show Go p.tables e below s _ _ _ (T626.setTop (mkF m 264 #[.val (.int p1), .val (.int p2), .val (.int p3), .val (.int k3), .val (.int (1 : Int32)), .val (.int (1 : Int32)), .val (.int av), .val (.int ra), .val (.ref b607), .val (.ref b611), .val (.int (2 : Int32)), .val (.int (1 : Int32)), .val (.ref oa), .val (.int r13), .val (.int r14)] [(.long (3 : Int64))]))
                    refine g_aload X626 hx hby at_264 (pc' := 266) rfl rfl rfl ?_
                    refine g_iload X626 hx hby at_266 (pc' := 268) rfl rfl ?_
                    refine Go.laload X626 hx hZ hh626 fj257_5 (k := 1) rfl (by decide) (v := (3 : Int64)) rfl (hb hby at_268) (pc' := 269) rfl ?_
                    refine g_lcmp X626 hx hby at_269 (pc' := 270) rfl  ?_
                    have hc270 : (3 : Int) = (3 : Int) := by decide
                    refine g_ifNo X626 hx hby at_270 (pc' := 273) (teq (show (lcmpW (3 : Int64) (3 : Int64)) = (0 : Int32) from (lw_eq (3 : Int64) (3 : Int64)).mpr (Int64.toInt_inj.mp hc270))).2 rfl ?_
                    refine g_iconst X626 hx hby at_273 (pc' := 274) rfl (z := (1 : Int32)) rfl ?_
                    refine g_goto X626 hx hby at_274 (pc' := 278) (by decide) (by decide) ?_
                    refine Go.retZ X626 hx hlk hret (by simp) (hb hby at_278) (by decide) (by decide) ?_
                    exact ⟨rfl, N626⟩
                intro J257
                rcases hJ66 with rfl | rfl
                · show Go p.tables e below s _ _ _ (Tj246a1.setTop (mkF m 246 #[.val (.int p1), .val (.int p2), .val (.int p3), .val (.int k3), .val (.int (1 : Int32)), .val (.int (1 : Int32)), .val (.int av), .val (.int (0 : Int32)), .val (.ref b607), .val (.ref b611), .val (.int (2 : Int32)), .val (.int v619), .val (.ref oa), .val (.int r13), .val (.int r14)] []))
                  refine g_iload Xj246a1 hx hby at_246 (pc' := 248) rfl rfl ?_
                  have hc248 : (0 : Int) = (0 : Int) := by decide
                  refine g_ifYes Xj246a1 hx hby at_248 (pc' := 257) (teq (show (0 : Int32) = (0 : Int32) from Int32.toInt_inj.mp hc248)).1 (by decide) (by decide) ?_
                  exact J257 (Tj246a1, _, hj246a1, ()) ⟨Xj246a1.more (by decide) (by decide), ej246a1, Nj246a1, zj246a1, fj246a1_0, fj246a1_3, fj246a1_5, fj246a1_6, fj246a1_9, fj246a1_10, (show True from trivial)⟩
                · show Go p.tables e below s _ _ _ (Tj246a1.setTop (mkF m 246 #[.val (.int p1), .val (.int p2), .val (.int p3), .val (.int k3), .val (.int (1 : Int32)), .val (.int (1 : Int32)), .val (.int av), .val (.int (1 : Int32)), .val (.ref b607), .val (.ref b611), .val (.int (2 : Int32)), .val (.int v619), .val (.ref oa), .val (.int r13), .val (.int r14)] []))
                  refine g_iload Xj246a1 hx hby at_246 (pc' := 248) rfl rfl ?_
                  have hc248 : ¬ ((1 : Int) = (0 : Int)) := by decide
                  refine g_ifNo Xj246a1 hx hby at_248 (pc' := 251) (feq (show ¬ ((1 : Int32) = (0 : Int32)) from fun q => hc248 (congrArg Int32.toInt q))).1 rfl ?_
                  refine g_aload Xj246a1 hx hby at_251 (pc' := 253) rfl rfl rfl ?_
                  refine g_iconst Xj246a1 hx hby at_253 (pc' := 254) rfl (z := (0 : Int32)) rfl ?_
                  refine Go.callV Xj246a1 hx hZ hown (wi hw 87 rfl) (wi hw 88 rfl) (notFace_of_selects (args := #[]) (mvT hZ (wi hw 90 rfl))) (wi hw 90 rfl) (wi hw 89 rfl) (wi hw 6 rfl) (wi hw 91 rfl) (by decide) ej246a1 (a := oa) (argsL := [(.int (0 : Int32))]) (rest := []) (W := 0) fj246a1_0 (rm_remove4s l Z a0 hw oa (0 : Int32) xa xb (own_l [(0 : Int32), (0 : Int32), (0 : Int32), (0 : Int32)]) (own_l [(0 : Int32), (0 : Int32), (0 : Int32), (0 : Int32)]) (2 : Int32) (2 : Int32) 0 xk (4 : Int64) hj246a1 n0 zj246a1 fj246a1_0 fj246a1_1 fj246a1_2 fj246a1_7 fj246a1_8 fj246a1_3 fj246a1_4 fj246a1_5 fj246a1_6 nn0 nn1 nn2 gg0 gg1 gg2 rfl (by decide)) (hb hby at_254) (by rw [hml]; rfl) rfl pd5 rfl rfl (by decide) (by decide) (by decide) (by decide) ?_
                  intro v627 T627 L627 X627 hQ627
                  obtain ⟨h627, e627⟩ : ∃ z, T627.heap = z := ⟨_, rfl⟩
                  rw [e627] at hQ627
                  obtain ⟨rfl, Nq627, Kq627, Fq0_627, Fq1_627, Fq2_627, Fq3_627, Fq4_627, Fq5_627, Fq6_627, Fq7_627⟩ := hQ627
                  have N627 := Fr.app Nj246a1 Nq627
                  have Fq5_627 : Fld Z h627 oa kES "count" "I" (.int (1 : Int32)) := Fq5_627
                  refine Go.void (pc' := 257) rfl ?_
                  have f628 := fj246a1_0.keep Kq627
                  have f629 := (fj246a1_9.keep Kq627 (ninS nn3 (ninS nn4 (ninS nn5 nin0))))
                  have f630 := (fj246a1_10.keep Kq627 (ninS nn6 (ninS nn7 (ninS nn8 nin0))))
                  exact J257 (T627, _, h627, ()) ⟨X627.more (by decide) (by decide), e627, N627, (Nat.le_trans zj246a1 Kq627.1), f628, Fq4_627, Fq6_627, Fq7_627, f629, f630, (show True from trivial)⟩
              intro J246a1
              rcases hJ12 with rfl | rfl
              · show Go p.tables e below s _ _ _ (Tj138.setTop (mkF m 147 #[.val (.int p1), .val (.int p2), .val (.int p3), .val (.int (0 : Int32)), .val (.int (1 : Int32)), .val (.int (1 : Int32)), .val (.int av), .val (.int ra), .val (.ref b607), .val (.ref b611), .val (.int nv), .val (.int v619), .unset, .unset, .unset] []))
                refine g_new Xj138 hx hby hZ hown (wi hw 4 rfl) (wi hw 5 rfl) (wi hw 6 rfl) ej138 at_147 (pc' := 150) rfl (by decide) (by decide) ?_
                intro T631 h631 b631 X631 e631 E631 hb631 A631 D631
                have g632 : n0 ≤ b631 := by rw [hb631]; exact zj138
                have F633 : Fld Z h631 b631 "com/example/edgewise/edgewise/EdgeSlots" "sources" "[I" .null := D631 (Or.inl (wi hw 14 rfl)) (ty := (.array .int)) (by decide)
                have F634 : Fld Z h631 b631 "com/example/edgewise/edgewise/EdgeSlots" "targets" "[I" .null := D631 (Or.inl (wi hw 16 rfl)) (ty := (.array .int)) (by decide)
                have F635 : Fld Z h631 b631 "com/example/edgewise/edgewise/EdgeSlots" "sourcePositions" "[I" .null := D631 (Or.inl (wi hw 18 rfl)) (ty := (.array .int)) (by decide)
                have F636 : Fld Z h631 b631 "com/example/edgewise/edgewise/EdgeSlots" "targetPositions" "[I" .null := D631 (Or.inl (wi hw 20 rfl)) (ty := (.array .int)) (by decide)
                have F637 : Fld Z h631 b631 "com/example/edgewise/edgewise/EdgeSlots" "weights" "[D" .null := D631 (Or.inl (wi hw 23 rfl)) (ty := (.array .double)) (by decide)
                have F638 : Fld Z h631 b631 "com/example/edgewise/edgewise/EdgeSlots" "keys" "[I" .null := D631 (Or.inl (wi hw 25 rfl)) (ty := (.array .int)) (by decide)
                have F639 : Fld Z h631 b631 "com/example/edgewise/edgewise/EdgeSlots" "keptNumbers" "[J" .null := D631 (Or.inl (wi hw 27 rfl)) (ty := (.array .long)) (by decide)
                have F640 : Fld Z h631 b631 "com/example/edgewise/edgewise/EdgeSlots" "keyed" "Z" (.int (0 : Int32)) := D631 (Or.inr (wi hw 29 rfl)) (ty := .boolean) (by decide)
                have F641 : Fld Z h631 b631 "com/example/edgewise/edgewise/EdgeSlots" "bound" "I" (.int (0 : Int32)) := D631 (Or.inl (wi hw 36 rfl)) (ty := .int) (by decide)
                have F642 : Fld Z h631 b631 "com/example/edgewise/edgewise/EdgeSlots" "count" "I" (.int (0 : Int32)) := D631 (Or.inl (wi hw 71 rfl)) (ty := .int) (by decide)
                have F643 : Fld Z h631 b631 "com/example/edgewise/edgewise/EdgeSlots" "nextNumber" "J" (.long (0 : Int64)) := D631 (Or.inl (wi hw 73 rfl)) (ty := .long) (by decide)
                refine g_dup X631 hx hby at_150 (pc' := 151) rfl rfl ?_
                refine g_iloadN X631 hx hby at_151 (pc' := 152) rfl rfl ?_
                refine Go.callI X631 hx hZ hown rfl (wi hw 7 rfl) (wi hw 8 rfl) (wi hw 6 rfl) (wi hw 9 rfl) (by decide) e631 (a := b631) (argsL := [(.int (0 : Int32))]) (rest := [(.ref b631)]) (W := 1) (rm_init0 l Z a0 hw b631 h631 n0 (Nat.le_trans zj138 E631.1) A631 F633 F634 F635 F636 F637 F638 F639 F640 F641 F642 F643 g632) (hb hby at_152) (by rw [hml]; rfl) rfl pd7 rfl rfl (by decide) (by decide) (by decide) (by decide) ?_
                intro v644 T644 L644 X644 hQ644
                obtain ⟨h644, e644⟩ : ∃ z, T644.heap = z := ⟨_, rfl⟩
                rw [e644] at hQ644
                obtain ⟨b1_644, b2_644, b3_644, b4_644, b5_644, b6_644, b7_644, rfl, Nq644, Kq644, gqb1_644, sqb1_644, gqb2_644, sqb2_644, gqb3_644, sqb3_644, gqb4_644, sqb4_644, gqb5_644, sqb5_644, gqb6_644, sqb6_644, gqb7_644, sqb7_644, nqb1_b2_644, nqb1_b3_644, nqb1_b4_644, nqb1_b5_644, nqb1_b6_644, nqb1_b7_644, nqb2_b3_644, nqb2_b4_644, nqb2_b5_644, nqb2_b6_644, nqb2_b7_644, nqb3_b4_644, nqb3_b5_644, nqb3_b6_644, nqb3_b7_644, nqb4_b5_644, nqb4_b6_644, nqb4_b7_644, nqb5_b6_644, nqb5_b7_644, nqb6_b7_644, Fq0_644, Fq1_644, Fq2_644, Fq3_644, Fq4_644, Fq5_644, Fq6_644, Fq7_644, Fq8_644, Fq9_644, Fq10_644, Fq11_644, Fq12_644, Fq13_644, Fq14_644, Fq15_644, Fq16_644, Fq17_644⟩ := hQ644
                have N644 := Fr.app Nj138 Nq644
                refine Go.void (pc' := 155) rfl ?_
                refine g_astore X644 hx hby at_155 (pc' := 157) rfl rfl (L' := #[.val (.int p1), .val (.int p2), .val (.int p3), .val (.int (0 : Int32)), .val (.int (1 : Int32)), .val (.int (1 : Int32)), .val (.int av), .val (.int ra), .val (.ref b607), .val (.ref b611), .val (.int nv), .val (.int v619), .val (.ref b631), .unset, .unset]) rfl ?_
                refine g_aload X644 hx hby at_157 (pc' := 159) rfl rfl rfl ?_
                refine g_iconst X644 hx hby at_159 (pc' := 160) rfl (z := (0 : Int32)) rfl ?_
                refine g_iconst X644 hx hby at_160 (pc' := 161) rfl (z := (0 : Int32)) rfl ?_
                refine Go.of (fun _ k => XS.dconst0 X644.here hx rfl (hb hby at_161) (v := FP.dconst0) rfl k) ?_
                show Go p.tables e below s _ _ _ (T644.setTop (mkF m 162 #[.val (.int p1), .val (.int p2), .val (.int p3), .val (.int (0 : Int32)), .val (.int (1 : Int32)), .val (.int (1 : Int32)), .val (.int av), .val (.int ra), .val (.ref b607), .val (.ref b611), .val (.int nv), .val (.int v619), .val (.ref b631), .unset, .unset] [(.double FP.dconst0), (.int (0 : Int32)), (.int (0 : Int32)), (.ref b631)]))
                refine g_iloadN X644 hx hby at_162 (pc' := 163) rfl rfl ?_
                have f646 := A631.keep Kq644
                have ne647 : b631 ≠ b1_644 := Nat.ne_of_lt (Nat.lt_of_lt_of_le F643.lt sqb1_644)
                have ne648 : b631 ≠ b2_644 := Nat.ne_of_lt (Nat.lt_of_lt_of_le F643.lt sqb2_644)
                have ne649 : b631 ≠ b3_644 := Nat.ne_of_lt (Nat.lt_of_lt_of_le F643.lt sqb3_644)
                have ne650 : b631 ≠ b4_644 := Nat.ne_of_lt (Nat.lt_of_lt_of_le F643.lt sqb4_644)
                have ne651 : b631 ≠ b5_644 := Nat.ne_of_lt (Nat.lt_of_lt_of_le F643.lt sqb5_644)
                have ne652 : b631 ≠ b6_644 := Nat.ne_of_lt (Nat.lt_of_lt_of_le F643.lt sqb6_644)
                refine Go.callV X644 hx hZ hown (wi hw 30 rfl) (wi hw 31 rfl) (notFace_of_selects (args := #[]) (mvT hZ (wi hw 33 rfl))) (wi hw 33 rfl) (wi hw 32 rfl) (wi hw 6 rfl) (wi hw 34 rfl) (by decide) e644 (a := b631) (argsL := [(.int (0 : Int32)), (.int (0 : Int32)), (.double FP.dconst0), (.int p3)]) (rest := []) (W := 0) f646 (rm_addA0 l Z a0 hw b631 (0 : Int32) (0 : Int32) FP.dconst0 p3 b1_644 b2_644 b3_644 b4_644 b5_644 b6_644 b7_644 (fun _ => (0 : Int32)) (fun _ => (0 : Int32)) (fun _ => (0 : Int32)) (fun _ => (0 : Int32)) (fun _ => (0 : UInt64)) (fun _ => (0 : Int32)) (0 : Int32) (0 : Int64) h644 n0 (Nat.le_trans (Nat.le_trans zj138 E631.1) Kq644.1) f646 Fq7_644 Fq6_644 Fq0_644 Fq1_644 Fq2_644 Fq3_644 Fq4_644 Fq5_644 Fq11_644 Fq12_644 Fq13_644 Fq14_644 Fq15_644 Fq16_644 Fq8_644 Fq9_644 Fq10_644 (Ne.symm ne647) (Ne.symm ne648) (Ne.symm ne649) (Ne.symm ne650) (Ne.symm ne651) (Ne.symm ne652) g632) (hb hby at_163) (by rw [hml]; rfl) rfl pd8 rfl rfl (by decide) (by decide) (by decide) (by decide) ?_
                intro v645 T645 L645 X645 hQ645
                obtain ⟨h645, e645⟩ : ∃ z, T645.heap = z := ⟨_, rfl⟩
                rw [e645] at hQ645
                obtain ⟨b1_645, b2_645, b3_645, b4_645, b5_645, rfl, Nq645, Kq645, gqb1_645, sqb1_645, gqb2_645, sqb2_645, gqb3_645, sqb3_645, gqb4_645, sqb4_645, gqb5_645, sqb5_645, nqb1_b2_645, nqb1_b3_645, nqb1_b4_645, nqb1_b5_645, nqb2_b3_645, nqb2_b4_645, nqb2_b5_645, nqb3_b4_645, nqb3_b5_645, nqb4_b5_645, Fq0_645, Fq1_645, Fq2_645, Fq3_645, Fq4_645, Fq5_645, Fq6_645, Fq7_645, Fq8_645, Fq9_645, Fq10_645, Fq11_645, Fq12_645, Fq13_645, Fq14_645, Fq15_645⟩ := hQ645
                have N645 := Fr.app N644 Nq645
                have Fq9_645 : Fld Z h645 b631 kES "count" "I" (.int (1 : Int32)) := Fq9_645
                have Fq10_645 : Fld Z h645 b631 kES "nextNumber" "J" (.long (1 : Int64)) := Fq10_645
                refine Go.push (pc' := 166) rfl ?_
                refine g_istore X645 hx hby at_166 (pc' := 168) rfl (L' := #[.val (.int p1), .val (.int p2), .val (.int p3), .val (.int (0 : Int32)), .val (.int (1 : Int32)), .val (.int (1 : Int32)), .val (.int av), .val (.int ra), .val (.ref b607), .val (.ref b611), .val (.int nv), .val (.int v619), .val (.ref b631), .val (.int (0 : Int32)), .unset]) rfl ?_
                have V653 : ArF Z h645 b1_645 .int 4 (fun i => .int ((own_l [(0 : Int32), (0 : Int32), (0 : Int32), (0 : Int32)]) i)) := Fq11_645.congr (fun i hi => congrArg Value.int ((by decide : ∀ i, i < 4 → (own_l [(0 : Int32), (0 : Int32), (0 : Int32), (0 : Int32)]) i = (upI (fun _ => (0 : Int32)) 0 (0 : Int32)) i) i hi))
                have V654 : ArF Z h645 b2_645 .int 4 (fun i => .int ((own_l [(0 : Int32), (0 : Int32), (0 : Int32), (0 : Int32)]) i)) := Fq12_645.congr (fun i hi => congrArg Value.int ((by decide : ∀ i, i < 4 → (own_l [(0 : Int32), (0 : Int32), (0 : Int32), (0 : Int32)]) i = (upI (fun _ => (0 : Int32)) 0 (0 : Int32)) i) i hi))
                have ne655 : b607 ≠ b631 := Nat.ne_of_lt (by rw [hb631]; exact fj138_0.lt)
                have f656 := (((fj138_0.ext E631).keep Kq644 (ninS ne655 nin0)).keep Kq645 (ninS ne655 nin0))
                refine g_iload X645 hx hby at_168 (pc' := 170) rfl rfl ?_
                have hc170 : ¬ ((1 : Int) = (0 : Int)) := by decide
                refine g_ifNo X645 hx hby at_170 (pc' := 173) (feq (show ¬ ((1 : Int32) = (0 : Int32)) from fun q => hc170 (congrArg Int32.toInt q))).1 rfl ?_
                refine g_aload X645 hx hby at_173 (pc' := 175) rfl rfl rfl ?_
                refine g_iload X645 hx hby at_175 (pc' := 177) rfl rfl ?_
                have f658 := f646.keep Kq645
                have ne659 : b631 ≠ b1_645 := Nat.ne_of_lt (Nat.lt_of_lt_of_le f646.lt sqb1_645)
                have ne660 : b631 ≠ b2_645 := Nat.ne_of_lt (Nat.lt_of_lt_of_le f646.lt sqb2_645)
                refine Go.callV X645 hx hZ hown (wi hw 87 rfl) (wi hw 88 rfl) (notFace_of_selects (args := #[]) (mvT hZ (wi hw 90 rfl))) (wi hw 90 rfl) (wi hw 89 rfl) (wi hw 6 rfl) (wi hw 91 rfl) (by decide) e645 (a := b631) (argsL := [(.int (0 : Int32))]) (rest := []) (W := 0) f658 (rm_remove4 l Z a0 hw b631 (0 : Int32) b1_645 b2_645 (own_l [(0 : Int32), (0 : Int32), (0 : Int32), (0 : Int32)]) (own_l [(0 : Int32), (0 : Int32), (0 : Int32), (0 : Int32)]) (1 : Int32) (1 : Int32) 0 (0 : Int32) b3_645 b4_645 b5_645 b6_644 b7_644 (1 : Int64) h645 n0 (Nat.le_trans (Nat.le_trans (Nat.le_trans zj138 E631.1) Kq644.1) Kq645.1) f658 Fq2_645 Fq3_645 V653 V654 Fq8_645 Fq9_645 Fq0_645 Fq4_645 Fq5_645 Fq6_645 Fq7_645 Fq1_645 Fq10_645 (Ne.symm ne659) (Ne.symm ne660) nqb1_b2_645 g632 gqb1_645 gqb2_645 rfl (by decide)) (hb hby at_177) (by rw [hml]; rfl) rfl pd5 rfl rfl (by decide) (by decide) (by decide) (by decide) ?_
                intro v657 T657 L657 X657 hQ657
                obtain ⟨h657, e657⟩ : ∃ z, T657.heap = z := ⟨_, rfl⟩
                rw [e657] at hQ657
                obtain ⟨rfl, Nq657, Kq657, Fq0_657, Fq1_657, Fq2_657, Fq3_657, Fq4_657, Fq5_657, Fq6_657, Fq7_657, Fq8_657, Fq9_657, Fq10_657, Fq11_657, Fq12_657⟩ := hQ657
                have N657 := Fr.app N645 Nq657
                have Fq5_657 : Fld Z h657 b631 kES "count" "I" (.int (0 : Int32)) := Fq5_657
                refine Go.void (pc' := 180) rfl ?_
                have V661 : ArF Z h657 b1_645 .int 4 (fun i => .int ((own_l [(-1 : Int32), (0 : Int32), (0 : Int32), (0 : Int32)]) i)) := Fq2_657.congr (fun i hi => congrArg Value.int ((by decide : ∀ i, i < 4 → (own_l [(-1 : Int32), (0 : Int32), (0 : Int32), (0 : Int32)]) i = (upI (own_l [(0 : Int32), (0 : Int32), (0 : Int32), (0 : Int32)]) 0 (-1 : Int32)) i) i hi))
                have V662 : ArF Z h657 b2_645 .int 4 (fun i => .int ((own_l [(-1 : Int32), (0 : Int32), (0 : Int32), (0 : Int32)]) i)) := Fq3_657.congr (fun i hi => congrArg Value.int ((by decide : ∀ i, i < 4 → (own_l [(-1 : Int32), (0 : Int32), (0 : Int32), (0 : Int32)]) i = (upI (own_l [(0 : Int32), (0 : Int32), (0 : Int32), (0 : Int32)]) 0 (-1 : Int32)) i) i hi))
                have ne663 : b607 ≠ b2_645 := Nat.ne_of_lt (Nat.lt_of_lt_of_le ((fj138_0.ext E631).keep Kq644 (ninS ne655 nin0)).lt sqb2_645)
                have ne664 : b607 ≠ b1_645 := Nat.ne_of_lt (Nat.lt_of_lt_of_le ((fj138_0.ext E631).keep Kq644 (ninS ne655 nin0)).lt sqb1_645)
                have f665 := (f656.keep Kq657 (ninS ne655 (ninS ne664 (ninS ne663 nin0))))
                refine g_aload X657 hx hby at_180 (pc' := 182) rfl rfl rfl ?_
                refine g_aload X657 hx hby at_182 (pc' := 184) rfl rfl rfl ?_
                refine g_aconst_null X657 hx hby at_184 (pc' := 185) rfl  ?_
                refine g_aconst_null X657 hx hby at_185 (pc' := 186) rfl  ?_
                have f667 := f658.keep Kq657
                have ne668 : b631 ≠ b7_644 := Nat.ne_of_lt (Nat.lt_of_lt_of_le F643.lt sqb7_644)
                have ne669 : b7_644 ≠ b2_645 := Nat.ne_of_lt (Nat.lt_of_lt_of_le Fq17_644.lt sqb2_645)
                have ne670 : b7_644 ≠ b1_645 := Nat.ne_of_lt (Nat.lt_of_lt_of_le Fq17_644.lt sqb1_645)
                have f671 := ((Fq17_644.keep Kq645 (ninS (Ne.symm ne668) nin0)).keep Kq657 (ninS (Ne.symm ne668) (ninS ne670 (ninS ne669 nin0))))
                refine Go.callV X657 hx hZ hown (wi hw 74 rfl) (wi hw 75 rfl) (notFace_of_selects (args := #[]) (mvT hZ (wi hw 77 rfl))) (wi hw 77 rfl) (wi hw 76 rfl) (wi hw 6 rfl) (wi hw 78 rfl) (by decide) e657 (a := b631) (argsL := [(.ref b607), .null, .null]) (rest := []) (W := 0) f667 (rm_compactA1 l Z a0 hw b631 b607 b1_645 b2_645 b7_644 (0 : Int32) b3_645 b4_645 b5_645 b6_644 (fun _ => (0 : Int64)) h657 n0 (Nat.le_trans (Nat.le_trans (Nat.le_trans (Nat.le_trans zj138 E631.1) Kq644.1) Kq645.1) Kq657.1) f667 Fq0_657 Fq1_657 Fq4_657 Fq5_657 Fq11_657 Fq12_657 Fq6_657 Fq7_657 Fq8_657 Fq9_657 Fq10_657 V661 V662 f671 f665 (Ne.symm ne659) (Ne.symm ne660) nqb1_b2_645 (Ne.symm ne668) ne670 ne669 ne655 ne664 ne663 g632 gqb1_645 gqb2_645) (hb hby at_186) (by rw [hml]; rfl) rfl pd9 rfl rfl (by decide) (by decide) (by decide) (by decide) ?_
                intro v666 T666 L666 X666 hQ666
                obtain ⟨h666, e666⟩ : ∃ z, T666.heap = z := ⟨_, rfl⟩
                rw [e666] at hQ666
                obtain ⟨b1_666, rfl, Nq666, Kq666, gqb1_666, sqb1_666, Fq0_666, Fq1_666, Fq2_666, Fq3_666, Fq4_666, Fq5_666, Fq6_666, Fq7_666, Fq8_666, Fq9_666, Fq10_666, Fq11_666, Fq12_666, Fq13_666⟩ := hQ666
                have N666 := Fr.app N657 Nq666
                refine Go.void (pc' := 189) rfl ?_
                have f672 := (f665.keep Kq666 (ninS ne655 (ninS ne664 (ninS ne663 nin0))))
                refine g_aload X666 hx hby at_189 (pc' := 191) rfl rfl rfl ?_
                refine g_iconst X666 hx hby at_191 (pc' := 192) rfl (z := (0 : Int32)) rfl ?_
                refine g_iconst X666 hx hby at_192 (pc' := 193) rfl (z := (0 : Int32)) rfl ?_
                refine Go.of (fun _ k => XS.dconst0 X666.here hx rfl (hb hby at_193) (v := FP.dconst0) rfl k) ?_
                show Go p.tables e below s _ _ _ (T666.setTop (mkF m 194 #[.val (.int p1), .val (.int p2), .val (.int p3), .val (.int (0 : Int32)), .val (.int (1 : Int32)), .val (.int (1 : Int32)), .val (.int av), .val (.int ra), .val (.ref b607), .val (.ref b611), .val (.int nv), .val (.int v619), .val (.ref b631), .val (.int (0 : Int32)), .unset] [(.double FP.dconst0), (.int (0 : Int32)), (.int (0 : Int32)), (.ref b631)]))
                refine g_iloadN X666 hx hby at_194 (pc' := 195) rfl rfl ?_
                have f674 := f667.keep Kq666
                have ne675 : b631 ≠ b5_645 := Nat.ne_of_lt (Nat.lt_of_lt_of_le f646.lt sqb5_645)
                have f676 := ((Fq15_645.keep Kq657 (ninS (Ne.symm ne675) (ninS (Ne.symm nqb1_b5_645) (ninS (Ne.symm nqb2_b5_645) nin0)))).keep Kq666 (ninS (Ne.symm ne675) (ninS (Ne.symm nqb1_b5_645) (ninS (Ne.symm nqb2_b5_645) nin0))))
                refine Go.callV X666 hx hZ hown (wi hw 30 rfl) (wi hw 31 rfl) (notFace_of_selects (args := #[]) (mvT hZ (wi hw 33 rfl))) (wi hw 33 rfl) (wi hw 32 rfl) (wi hw 6 rfl) (wi hw 34 rfl) (by decide) e666 (a := b631) (argsL := [(.int (0 : Int32)), (.int (0 : Int32)), (.double FP.dconst0), (.int p3)]) (rest := []) (W := 0) f674 (rm_addB0 l Z a0 hw b631 (0 : Int32) (0 : Int32) FP.dconst0 p3 b1_645 b2_645 b3_645 b4_645 b5_645 b6_644 b1_666 (own_l [(-1 : Int32), (0 : Int32), (0 : Int32), (0 : Int32)]) (own_l [(-1 : Int32), (0 : Int32), (0 : Int32), (0 : Int32)]) (upD (fun _ => (0 : UInt64)) 0 FP.dconst0) (0 : Int32) (0 : Int32) (1 : Int64) 0 h666 n0 (Nat.le_trans (Nat.le_trans (Nat.le_trans (Nat.le_trans (Nat.le_trans zj138 E631.1) Kq644.1) Kq645.1) Kq657.1) Kq666.1) f674 Fq6_666 Fq4_666 Fq0_666 Fq1_666 Fq7_666 Fq8_666 Fq9_666 Fq10_666 Fq11_666 Fq12_666 f676 Fq2_666 Fq3_666 Fq5_666 (Ne.symm ne659) (Ne.symm ne660) (Ne.symm ne675) nqb1_b2_645 nqb1_b5_645 nqb2_b5_645 g632 gqb1_645 gqb2_645 gqb5_645 rfl (by decide)) (hb hby at_195) (by rw [hml]; rfl) rfl pd8 rfl rfl (by decide) (by decide) (by decide) (by decide) ?_
                intro v673 T673 L673 X673 hQ673
                obtain ⟨h673, e673⟩ : ∃ z, T673.heap = z := ⟨_, rfl⟩
                rw [e673] at hQ673
                obtain ⟨rfl, Nq673, Kq673, Fq0_673, Fq1_673, Fq2_673, Fq3_673, Fq4_673, Fq5_673, Fq6_673, Fq7_673, Fq8_673, Fq9_673, Fq10_673, Fq11_673, Fq12_673, Fq13_673⟩ := hQ673
                have N673 := Fr.app N666 Nq673
                have Fq8_673 : Fld Z h673 b631 kES "bound" "I" (.int (1 : Int32)) := Fq8_673
                have Fq9_673 : Fld Z h673 b631 kES "count" "I" (.int (1 : Int32)) := Fq9_673
                have Fq10_673 : Fld Z h673 b631 kES "nextNumber" "J" (.long (2 : Int64)) := Fq10_673
                refine Go.push (pc' := 198) rfl ?_
                refine g_pop X673 hx hby at_198 (pc' := 199) rfl rfl ?_
                have V677 : ArF Z h673 b1_645 .int 4 (fun i => .int ((own_l [(0 : Int32), (0 : Int32), (0 : Int32), (0 : Int32)]) i)) := Fq11_673.congr (fun i hi => congrArg Value.int ((by decide : ∀ i, i < 4 → (own_l [(0 : Int32), (0 : Int32), (0 : Int32), (0 : Int32)]) i = (upI (own_l [(-1 : Int32), (0 : Int32), (0 : Int32), (0 : Int32)]) 0 (0 : Int32)) i) i hi))
                have V678 : ArF Z h673 b2_645 .int 4 (fun i => .int ((own_l [(0 : Int32), (0 : Int32), (0 : Int32), (0 : Int32)]) i)) := Fq12_673.congr (fun i hi => congrArg Value.int ((by decide : ∀ i, i < 4 → (own_l [(0 : Int32), (0 : Int32), (0 : Int32), (0 : Int32)]) i = (upI (own_l [(-1 : Int32), (0 : Int32), (0 : Int32), (0 : Int32)]) 0 (0 : Int32)) i) i hi))
                have ne679 : b607 ≠ b5_645 := Nat.ne_of_lt (Nat.lt_of_lt_of_le ((fj138_0.ext E631).keep Kq644 (ninS ne655 nin0)).lt sqb5_645)
                have f680 := (f672.keep Kq673 (ninS ne655 (ninS ne664 (ninS ne663 (ninS ne679 nin0)))))
                refine g_aload X673 hx hby at_199 (pc' := 201) rfl rfl rfl ?_
                refine g_iconst X673 hx hby at_201 (pc' := 202) rfl (z := (0 : Int32)) rfl ?_
                refine g_iconst X673 hx hby at_202 (pc' := 203) rfl (z := (0 : Int32)) rfl ?_
                refine Go.of (fun _ k => XS.dconst0 X673.here hx rfl (hb hby at_203) (v := FP.dconst0) rfl k) ?_
                show Go p.tables e below s _ _ _ (T673.setTop (mkF m 204 #[.val (.int p1), .val (.int p2), .val (.int p3), .val (.int (0 : Int32)), .val (.int (1 : Int32)), .val (.int (1 : Int32)), .val (.int av), .val (.int ra), .val (.ref b607), .val (.ref b611), .val (.int nv), .val (.int v619), .val (.ref b631), .val (.int (0 : Int32)), .unset] [(.double FP.dconst0), (.int (0 : Int32)), (.int (0 : Int32)), (.ref b631)]))
                refine g_iloadN X673 hx hby at_204 (pc' := 205) rfl rfl ?_
                have f682 := f674.keep Kq673
                refine Go.callV X673 hx hZ hown (wi hw 30 rfl) (wi hw 31 rfl) (notFace_of_selects (args := #[]) (mvT hZ (wi hw 33 rfl))) (wi hw 33 rfl) (wi hw 32 rfl) (wi hw 6 rfl) (wi hw 34 rfl) (by decide) e673 (a := b631) (argsL := [(.int (0 : Int32)), (.int (0 : Int32)), (.double FP.dconst0), (.int p3)]) (rest := []) (W := 0) f682 (rm_addB0 l Z a0 hw b631 (0 : Int32) (0 : Int32) FP.dconst0 p3 b1_645 b2_645 b3_645 b4_645 b5_645 b6_644 b1_666 (own_l [(0 : Int32), (0 : Int32), (0 : Int32), (0 : Int32)]) (own_l [(0 : Int32), (0 : Int32), (0 : Int32), (0 : Int32)]) (upD (upD (fun _ => (0 : UInt64)) 0 FP.dconst0) 0 FP.dconst0) (1 : Int32) (1 : Int32) (2 : Int64) 1 h673 n0 (Nat.le_trans (Nat.le_trans (Nat.le_trans (Nat.le_trans (Nat.le_trans (Nat.le_trans zj138 E631.1) Kq644.1) Kq645.1) Kq657.1) Kq666.1) Kq673.1) f682 Fq0_673 Fq1_673 Fq2_673 Fq3_673 Fq4_673 Fq5_673 Fq6_673 Fq7_673 V677 V678 Fq13_673 Fq8_673 Fq9_673 Fq10_673 (Ne.symm ne659) (Ne.symm ne660) (Ne.symm ne675) nqb1_b2_645 nqb1_b5_645 nqb2_b5_645 g632 gqb1_645 gqb2_645 gqb5_645 rfl (by decide)) (hb hby at_205) (by rw [hml]; rfl) rfl pd8 rfl rfl (by decide) (by decide) (by decide) (by decide) ?_
                intro v681 T681 L681 X681 hQ681
                obtain ⟨h681, e681⟩ : ∃ z, T681.heap = z := ⟨_, rfl⟩
                rw [e681] at hQ681
                obtain ⟨rfl, Nq681, Kq681, Fq0_681, Fq1_681, Fq2_681, Fq3_681, Fq4_681, Fq5_681, Fq6_681, Fq7_681, Fq8_681, Fq9_681, Fq10_681, Fq11_681, Fq12_681, Fq13_681⟩ := hQ681
                have N681 := Fr.app N673 Nq681
                have z683 : n0 ≤ h681.size := (Nat.le_trans (Nat.le_trans (Nat.le_trans (Nat.le_trans (Nat.le_trans (Nat.le_trans (Nat.le_trans zj138 E631.1) Kq644.1) Kq645.1) Kq657.1) Kq666.1) Kq673.1) Kq681.1)
                have Fq8_681 : Fld Z h681 b631 kES "bound" "I" (.int (2 : Int32)) := Fq8_681
                have Fq9_681 : Fld Z h681 b631 kES "count" "I" (.int (2 : Int32)) := Fq9_681
                have Fq10_681 : Fld Z h681 b631 kES "nextNumber" "J" (.long (3 : Int64)) := Fq10_681
                refine Go.push (pc' := 208) rfl ?_
                refine g_istore X681 hx hby at_208 (pc' := 210) rfl (L' := #[.val (.int p1), .val (.int p2), .val (.int p3), .val (.int (0 : Int32)), .val (.int (1 : Int32)), .val (.int (1 : Int32)), .val (.int av), .val (.int ra), .val (.ref b607), .val (.ref b611), .val (.int nv), .val (.int v619), .val (.ref b631), .val (.int (0 : Int32)), .val (.int (1 : Int32))]) rfl ?_
                have V684 : ArF Z h681 b1_645 .int 4 (fun i => .int ((own_l [(0 : Int32), (0 : Int32), (0 : Int32), (0 : Int32)]) i)) := Fq11_681.congr (fun i hi => congrArg Value.int ((by decide : ∀ i, i < 4 → (own_l [(0 : Int32), (0 : Int32), (0 : Int32), (0 : Int32)]) i = (upI (own_l [(0 : Int32), (0 : Int32), (0 : Int32), (0 : Int32)]) 1 (0 : Int32)) i) i hi))
                have V685 : ArF Z h681 b2_645 .int 4 (fun i => .int ((own_l [(0 : Int32), (0 : Int32), (0 : Int32), (0 : Int32)]) i)) := Fq12_681.congr (fun i hi => congrArg Value.int ((by decide : ∀ i, i < 4 → (own_l [(0 : Int32), (0 : Int32), (0 : Int32), (0 : Int32)]) i = (upI (own_l [(0 : Int32), (0 : Int32), (0 : Int32), (0 : Int32)]) 1 (0 : Int32)) i) i hi))
                have f686 := (f680.keep Kq681 (ninS ne655 (ninS ne664 (ninS ne663 (ninS ne679 nin0)))))
                refine g_iload X681 hx hby at_210 (pc' := 212) rfl rfl ?_
                have hc212 : ¬ ((1 : Int) = (0 : Int)) := by decide
                refine g_ifNo X681 hx hby at_212 (pc' := 215) (feq (show ¬ ((1 : Int32) = (0 : Int32)) from fun q => hc212 (congrArg Int32.toInt q))).1 rfl ?_
                refine g_aload X681 hx hby at_215 (pc' := 217) rfl rfl rfl ?_
                refine g_iload X681 hx hby at_217 (pc' := 219) rfl rfl ?_
                have f688 := f682.keep Kq681
                refine Go.callV X681 hx hZ hown (wi hw 87 rfl) (wi hw 88 rfl) (notFace_of_selects (args := #[]) (mvT hZ (wi hw 90 rfl))) (wi hw 90 rfl) (wi hw 89 rfl) (wi hw 6 rfl) (wi hw 91 rfl) (by decide) e681 (a := b631) (argsL := [(.int (1 : Int32))]) (rest := []) (W := 0) f688 (rm_remove4 l Z a0 hw b631 (1 : Int32) b1_645 b2_645 (own_l [(0 : Int32), (0 : Int32), (0 : Int32), (0 : Int32)]) (own_l [(0 : Int32), (0 : Int32), (0 : Int32), (0 : Int32)]) (2 : Int32) (2 : Int32) 1 (0 : Int32) b3_645 b4_645 b5_645 b6_644 b1_666 (3 : Int64) h681 n0 z683 f688 Fq2_681 Fq3_681 V684 V685 Fq8_681 Fq9_681 Fq0_681 Fq4_681 Fq5_681 Fq6_681 Fq7_681 Fq1_681 Fq10_681 (Ne.symm ne659) (Ne.symm ne660) nqb1_b2_645 g632 gqb1_645 gqb2_645 rfl (by decide)) (hb hby at_219) (by rw [hml]; rfl) rfl pd5 rfl rfl (by decide) (by decide) (by decide) (by decide) ?_
                intro v687 T687 L687 X687 hQ687
                obtain ⟨h687, e687⟩ : ∃ z, T687.heap = z := ⟨_, rfl⟩
                rw [e687] at hQ687
                obtain ⟨rfl, Nq687, Kq687, Fq0_687, Fq1_687, Fq2_687, Fq3_687, Fq4_687, Fq5_687, Fq6_687, Fq7_687, Fq8_687, Fq9_687, Fq10_687, Fq11_687, Fq12_687⟩ := hQ687
                have N687 := Fr.app N681 Nq687
                have Fq5_687 : Fld Z h687 b631 kES "count" "I" (.int (1 : Int32)) := Fq5_687
                refine Go.void (pc' := 222) rfl ?_
                have V689 : ArF Z h687 b1_645 .int 4 (fun i => .int ((own_l [(0 : Int32), (-1 : Int32), (0 : Int32), (0 : Int32)]) i)) := Fq2_687.congr (fun i hi => congrArg Value.int ((by decide : ∀ i, i < 4 → (own_l [(0 : Int32), (-1 : Int32), (0 : Int32), (0 : Int32)]) i = (upI (own_l [(0 : Int32), (0 : Int32), (0 : Int32), (0 : Int32)]) 1 (-1 : Int32)) i) i hi))
                have V690 : ArF Z h687 b2_645 .int 4 (fun i => .int ((own_l [(0 : Int32), (-1 : Int32), (0 : Int32), (0 : Int32)]) i)) := Fq3_687.congr (fun i hi => congrArg Value.int ((by decide : ∀ i, i < 4 → (own_l [(0 : Int32), (-1 : Int32), (0 : Int32), (0 : Int32)]) i = (upI (own_l [(0 : Int32), (0 : Int32), (0 : Int32), (0 : Int32)]) 1 (-1 : Int32)) i) i hi))
                have f691 := (f686.keep Kq687 (ninS ne655 (ninS ne664 (ninS ne663 nin0))))
                refine g_aload X687 hx hby at_222 (pc' := 224) rfl rfl rfl ?_
                refine g_aload X687 hx hby at_224 (pc' := 226) rfl rfl rfl ?_
                refine g_aconst_null X687 hx hby at_226 (pc' := 227) rfl  ?_
                refine g_aconst_null X687 hx hby at_227 (pc' := 228) rfl  ?_
                have f693 := f688.keep Kq687
                have ne694 : b5_645 ≠ b1_666 := Nat.ne_of_lt (Nat.lt_of_lt_of_le (Fq15_645.keep Kq657 (ninS (Ne.symm ne675) (ninS (Ne.symm nqb1_b5_645) (ninS (Ne.symm nqb2_b5_645) nin0)))).lt sqb1_666)
                have ne695 : b2_645 ≠ b1_666 := Nat.ne_of_lt (Nat.lt_of_lt_of_le V662.lt sqb1_666)
                have ne696 : b1_645 ≠ b1_666 := Nat.ne_of_lt (Nat.lt_of_lt_of_le V661.lt sqb1_666)
                have ne697 : b631 ≠ b1_666 := Nat.ne_of_lt (Nat.lt_of_lt_of_le f667.lt sqb1_666)
                have f698 := (((Fq13_666.keep Kq673 (ninS (Ne.symm ne697) (ninS (Ne.symm ne696) (ninS (Ne.symm ne695) (ninS (Ne.symm ne694) nin0))))).keep Kq681 (ninS (Ne.symm ne697) (ninS (Ne.symm ne696) (ninS (Ne.symm ne695) (ninS (Ne.symm ne694) nin0))))).keep Kq687 (ninS (Ne.symm ne697) (ninS (Ne.symm ne696) (ninS (Ne.symm ne695) nin0))))
                refine Go.callV X687 hx hZ hown (wi hw 74 rfl) (wi hw 75 rfl) (notFace_of_selects (args := #[]) (mvT hZ (wi hw 77 rfl))) (wi hw 77 rfl) (wi hw 76 rfl) (wi hw 6 rfl) (wi hw 78 rfl) (by decide) e687 (a := b631) (argsL := [(.ref b607), .null, .null]) (rest := []) (W := 0) f693 (rm_compactB11 l Z a0 hw b631 b607 b1_645 b2_645 b1_666 (0 : Int32) b3_645 b4_645 b5_645 b6_644 (fun _ => (0 : Int64)) h687 n0 (Nat.le_trans z683 Kq687.1) f693 Fq0_687 Fq1_687 Fq4_687 Fq5_687 Fq11_687 Fq12_687 Fq6_687 Fq7_687 Fq8_687 Fq9_687 Fq10_687 V689 V690 f698 f691 (Ne.symm ne659) (Ne.symm ne660) nqb1_b2_645 (Ne.symm ne697) (Ne.symm ne696) (Ne.symm ne695) ne655 ne664 ne663 g632 gqb1_645 gqb2_645) (hb hby at_228) (by rw [hml]; rfl) rfl pd9 rfl rfl (by decide) (by decide) (by decide) (by decide) ?_
                intro v692 T692 L692 X692 hQ692
                obtain ⟨h692, e692⟩ : ∃ z, T692.heap = z := ⟨_, rfl⟩
                rw [e692] at hQ692
                obtain ⟨b1_692, rfl, Nq692, Kq692, gqb1_692, sqb1_692, Fq0_692, Fq1_692, Fq2_692, Fq3_692, Fq4_692, Fq5_692, Fq6_692, Fq7_692, Fq8_692, Fq9_692, Fq10_692, Fq11_692, Fq12_692, Fq13_692⟩ := hQ692
                have N692 := Fr.app N687 Nq692
                refine Go.void (pc' := 231) rfl ?_
                have f699 := (f691.keep Kq692 (ninS ne655 (ninS ne664 (ninS ne663 nin0))))
                have hA0 := hJ52
                rcases hA0 with hA | hA
                · have hA' := congrArg Int32.toInt hA
                  refine g_iload X692 hx hby at_231 (pc' := 233) rfl rfl ?_
                  have hc233 : av.toInt = (0 : Int) := hA'
                  refine g_ifYes X692 hx hby at_233 (pc' := 246) (teq (show av = (0 : Int32) from Int32.toInt_inj.mp hc233)).1 (by decide) (by decide) ?_
                  have ne700 : b631 ≠ b1_692 := Nat.ne_of_lt (Nat.lt_of_lt_of_le f693.lt sqb1_692)
                  have ne701 : b1_645 ≠ b1_692 := Nat.ne_of_lt (Nat.lt_of_lt_of_le V689.lt sqb1_692)
                  have ne702 : b2_645 ≠ b1_692 := Nat.ne_of_lt (Nat.lt_of_lt_of_le V690.lt sqb1_692)
                  have ne703 : b611 ≠ b631 := Nat.ne_of_lt (by rw [hb631]; exact fj138_1.lt)
                  have ne704 : b611 ≠ b1_645 := Nat.ne_of_lt (Nat.lt_of_lt_of_le ((fj138_1.ext E631).keep Kq644 (ninS ne703 nin0)).lt sqb1_645)
                  have ne705 : b611 ≠ b2_645 := Nat.ne_of_lt (Nat.lt_of_lt_of_le ((fj138_1.ext E631).keep Kq644 (ninS ne703 nin0)).lt sqb2_645)
                  have f706 := f693.keep Kq692
                  have ne707 : b611 ≠ b5_645 := Nat.ne_of_lt (Nat.lt_of_lt_of_le ((fj138_1.ext E631).keep Kq644 (ninS ne703 nin0)).lt sqb5_645)
                  have f708 := (((((((((fj138_1.ext E631).keep Kq644 (ninS ne703 nin0)).keep Kq645 (ninS ne703 nin0)).keep Kq657 (ninS ne703 (ninS ne704 (ninS ne705 nin0)))).keep Kq666 (ninS ne703 (ninS ne704 (ninS ne705 nin0)))).keep Kq673 (ninS ne703 (ninS ne704 (ninS ne705 (ninS ne707 nin0))))).keep Kq681 (ninS ne703 (ninS ne704 (ninS ne705 (ninS ne707 nin0))))).keep Kq687 (ninS ne703 (ninS ne704 (ninS ne705 nin0)))).keep Kq692 (ninS ne703 (ninS ne704 (ninS ne705 nin0))))
                  exact J246a0 (T692, _, h692, (0 : Int32), (0 : Int32), (1 : Int32), b631, b1_645, b2_645, b1_692) ⟨X692.more (by decide) (by decide), e692, N692, (Nat.le_trans (Nat.le_trans z683 Kq687.1) Kq692.1), f706, Fq0_692, Fq1_692, Fq2_692, Fq3_692, Fq4_692, Fq5_692, Fq11_692, Fq12_692, Fq13_692, f708, (show b1_645 ≠ b631 ∧ b2_645 ≠ b631 ∧ b1_645 ≠ b2_645 ∧ b1_692 ≠ b631 ∧ b1_692 ≠ b1_645 ∧ b1_692 ≠ b2_645 ∧ b611 ≠ b631 ∧ b611 ≠ b1_645 ∧ b611 ≠ b2_645 ∧ n0 ≤ b631 ∧ n0 ≤ b1_645 ∧ n0 ≤ b2_645 ∧ av = (0 : Int32) from ⟨(Ne.symm ne659), (Ne.symm ne660), nqb1_b2_645, (Ne.symm ne700), (Ne.symm ne701), (Ne.symm ne702), ne703, ne704, ne705, g632, gqb1_645, gqb2_645, hA⟩)⟩
                · have hA' := congrArg Int32.toInt hA
                  refine g_iload X692 hx hby at_231 (pc' := 233) rfl rfl ?_
                  have hc233 : ¬ (av.toInt = (0 : Int)) := by intro q; rw [hA'] at q; exact absurd q (by decide)
                  refine g_ifNo X692 hx hby at_233 (pc' := 236) (feq (show ¬ (av = (0 : Int32)) from fun q => hc233 (congrArg Int32.toInt q))).1 rfl ?_
                  refine g_aload X692 hx hby at_236 (pc' := 238) rfl rfl rfl ?_
                  refine g_iconst X692 hx hby at_238 (pc' := 239) rfl (z := (0 : Int32)) rfl ?_
                  refine g_iconst X692 hx hby at_239 (pc' := 240) rfl (z := (0 : Int32)) rfl ?_
                  refine Go.of (fun _ k => XS.dconst0 X692.here hx rfl (hb hby at_240) (v := FP.dconst0) rfl k) ?_
                  show Go p.tables e below s _ _ _ (T692.setTop (mkF m 241 #[.val (.int p1), .val (.int p2), .val (.int p3), .val (.int (0 : Int32)), .val (.int (1 : Int32)), .val (.int (1 : Int32)), .val (.int av), .val (.int ra), .val (.ref b607), .val (.ref b611), .val (.int nv), .val (.int v619), .val (.ref b631), .val (.int (0 : Int32)), .val (.int (1 : Int32))] [(.double FP.dconst0), (.int (0 : Int32)), (.int (0 : Int32)), (.ref b631)]))
                  refine g_iloadN X692 hx hby at_241 (pc' := 242) rfl rfl ?_
                  have f710 := f693.keep Kq692
                  have f711 := ((Fq13_681.keep Kq687 (ninS (Ne.symm ne675) (ninS (Ne.symm nqb1_b5_645) (ninS (Ne.symm nqb2_b5_645) nin0)))).keep Kq692 (ninS (Ne.symm ne675) (ninS (Ne.symm nqb1_b5_645) (ninS (Ne.symm nqb2_b5_645) nin0))))
                  refine Go.callV X692 hx hZ hown (wi hw 30 rfl) (wi hw 31 rfl) (notFace_of_selects (args := #[]) (mvT hZ (wi hw 33 rfl))) (wi hw 33 rfl) (wi hw 32 rfl) (wi hw 6 rfl) (wi hw 34 rfl) (by decide) e692 (a := b631) (argsL := [(.int (0 : Int32)), (.int (0 : Int32)), (.double FP.dconst0), (.int p3)]) (rest := []) (W := 0) f710 (rm_addB0 l Z a0 hw b631 (0 : Int32) (0 : Int32) FP.dconst0 p3 b1_645 b2_645 b3_645 b4_645 b5_645 b6_644 b1_692 (own_l [(0 : Int32), (-1 : Int32), (0 : Int32), (0 : Int32)]) (own_l [(0 : Int32), (-1 : Int32), (0 : Int32), (0 : Int32)]) (upD (upD (upD (fun _ => (0 : UInt64)) 0 FP.dconst0) 0 FP.dconst0) 1 FP.dconst0) (1 : Int32) (1 : Int32) (3 : Int64) 1 h692 n0 (Nat.le_trans (Nat.le_trans z683 Kq687.1) Kq692.1) f710 Fq6_692 Fq4_692 Fq0_692 Fq1_692 Fq7_692 Fq8_692 Fq9_692 Fq10_692 Fq11_692 Fq12_692 f711 Fq2_692 Fq3_692 Fq5_692 (Ne.symm ne659) (Ne.symm ne660) (Ne.symm ne675) nqb1_b2_645 nqb1_b5_645 nqb2_b5_645 g632 gqb1_645 gqb2_645 gqb5_645 rfl (by decide)) (hb hby at_242) (by rw [hml]; rfl) rfl pd8 rfl rfl (by decide) (by decide) (by decide) (by decide) ?_
                  intro v709 T709 L709 X709 hQ709
                  obtain ⟨h709, e709⟩ : ∃ z, T709.heap = z := ⟨_, rfl⟩
                  rw [e709] at hQ709
                  obtain ⟨rfl, Nq709, Kq709, Fq0_709, Fq1_709, Fq2_709, Fq3_709, Fq4_709, Fq5_709, Fq6_709, Fq7_709, Fq8_709, Fq9_709, Fq10_709, Fq11_709, Fq12_709, Fq13_709⟩ := hQ709
                  have N709 := Fr.app N692 Nq709
                  have Fq8_709 : Fld Z h709 b631 kES "bound" "I" (.int (2 : Int32)) := Fq8_709
                  have Fq9_709 : Fld Z h709 b631 kES "count" "I" (.int (2 : Int32)) := Fq9_709
                  have Fq10_709 : Fld Z h709 b631 kES "nextNumber" "J" (.long (4 : Int64)) := Fq10_709
                  refine Go.push (pc' := 245) rfl ?_
                  refine g_pop X709 hx hby at_245 (pc' := 246) rfl rfl ?_
                  have V712 : ArF Z h709 b1_645 .int 4 (fun i => .int ((own_l [(0 : Int32), (0 : Int32), (0 : Int32), (0 : Int32)]) i)) := Fq11_709.congr (fun i hi => congrArg Value.int ((by decide : ∀ i, i < 4 → (own_l [(0 : Int32), (0 : Int32), (0 : Int32), (0 : Int32)]) i = (upI (own_l [(0 : Int32), (-1 : Int32), (0 : Int32), (0 : Int32)]) 1 (0 : Int32)) i) i hi))
                  have V713 : ArF Z h709 b2_645 .int 4 (fun i => .int ((own_l [(0 : Int32), (0 : Int32), (0 : Int32), (0 : Int32)]) i)) := Fq12_709.congr (fun i hi => congrArg Value.int ((by decide : ∀ i, i < 4 → (own_l [(0 : Int32), (0 : Int32), (0 : Int32), (0 : Int32)]) i = (upI (own_l [(0 : Int32), (-1 : Int32), (0 : Int32), (0 : Int32)]) 1 (0 : Int32)) i) i hi))
                  have ne714 : b631 ≠ b1_692 := Nat.ne_of_lt (Nat.lt_of_lt_of_le f693.lt sqb1_692)
                  have ne715 : b1_645 ≠ b1_692 := Nat.ne_of_lt (Nat.lt_of_lt_of_le V689.lt sqb1_692)
                  have ne716 : b2_645 ≠ b1_692 := Nat.ne_of_lt (Nat.lt_of_lt_of_le V690.lt sqb1_692)
                  have ne717 : b611 ≠ b631 := Nat.ne_of_lt (by rw [hb631]; exact fj138_1.lt)
                  have ne718 : b611 ≠ b1_645 := Nat.ne_of_lt (Nat.lt_of_lt_of_le ((fj138_1.ext E631).keep Kq644 (ninS ne717 nin0)).lt sqb1_645)
                  have ne719 : b611 ≠ b2_645 := Nat.ne_of_lt (Nat.lt_of_lt_of_le ((fj138_1.ext E631).keep Kq644 (ninS ne717 nin0)).lt sqb2_645)
                  have f720 := f710.keep Kq709
                  have ne721 : b5_645 ≠ b1_692 := Nat.ne_of_lt (Nat.lt_of_lt_of_le (Fq13_681.keep Kq687 (ninS (Ne.symm ne675) (ninS (Ne.symm nqb1_b5_645) (ninS (Ne.symm nqb2_b5_645) nin0)))).lt sqb1_692)
                  have f722 := (Fq13_692.keep Kq709 (ninS (Ne.symm ne714) (ninS (Ne.symm ne715) (ninS (Ne.symm ne716) (ninS (Ne.symm ne721) nin0)))))
                  have ne723 : b611 ≠ b5_645 := Nat.ne_of_lt (Nat.lt_of_lt_of_le ((fj138_1.ext E631).keep Kq644 (ninS ne717 nin0)).lt sqb5_645)
                  have f724 := ((((((((((fj138_1.ext E631).keep Kq644 (ninS ne717 nin0)).keep Kq645 (ninS ne717 nin0)).keep Kq657 (ninS ne717 (ninS ne718 (ninS ne719 nin0)))).keep Kq666 (ninS ne717 (ninS ne718 (ninS ne719 nin0)))).keep Kq673 (ninS ne717 (ninS ne718 (ninS ne719 (ninS ne723 nin0))))).keep Kq681 (ninS ne717 (ninS ne718 (ninS ne719 (ninS ne723 nin0))))).keep Kq687 (ninS ne717 (ninS ne718 (ninS ne719 nin0)))).keep Kq692 (ninS ne717 (ninS ne718 (ninS ne719 nin0)))).keep Kq709 (ninS ne717 (ninS ne718 (ninS ne719 (ninS ne723 nin0)))))
                  exact J246a1 (T709, _, h709, (0 : Int32), (0 : Int32), (1 : Int32), b631, b1_645, b2_645, b1_692) ⟨X709.more (by decide) (by decide), e709, N709, (Nat.le_trans (Nat.le_trans (Nat.le_trans z683 Kq687.1) Kq692.1) Kq709.1), f720, Fq2_709, Fq3_709, Fq8_709, Fq9_709, Fq1_709, Fq10_709, V712, V713, f722, f724, (show b1_645 ≠ b631 ∧ b2_645 ≠ b631 ∧ b1_645 ≠ b2_645 ∧ b1_692 ≠ b631 ∧ b1_692 ≠ b1_645 ∧ b1_692 ≠ b2_645 ∧ b611 ≠ b631 ∧ b611 ≠ b1_645 ∧ b611 ≠ b2_645 ∧ n0 ≤ b631 ∧ n0 ≤ b1_645 ∧ n0 ≤ b2_645 ∧ av = (1 : Int32) from ⟨(Ne.symm ne659), (Ne.symm ne660), nqb1_b2_645, (Ne.symm ne714), (Ne.symm ne715), (Ne.symm ne716), ne717, ne718, ne719, g632, gqb1_645, gqb2_645, hA⟩)⟩
              · show Go p.tables e below s _ _ _ (Tj138.setTop (mkF m 147 #[.val (.int p1), .val (.int p2), .val (.int p3), .val (.int (1 : Int32)), .val (.int (1 : Int32)), .val (.int (1 : Int32)), .val (.int av), .val (.int ra), .val (.ref b607), .val (.ref b611), .val (.int nv), .val (.int v619), .unset, .unset, .unset] []))
                refine g_new Xj138 hx hby hZ hown (wi hw 4 rfl) (wi hw 5 rfl) (wi hw 6 rfl) ej138 at_147 (pc' := 150) rfl (by decide) (by decide) ?_
                intro T725 h725 b725 X725 e725 E725 hb725 A725 D725
                have g726 : n0 ≤ b725 := by rw [hb725]; exact zj138
                have F727 : Fld Z h725 b725 "com/example/edgewise/edgewise/EdgeSlots" "sources" "[I" .null := D725 (Or.inl (wi hw 14 rfl)) (ty := (.array .int)) (by decide)
                have F728 : Fld Z h725 b725 "com/example/edgewise/edgewise/EdgeSlots" "targets" "[I" .null := D725 (Or.inl (wi hw 16 rfl)) (ty := (.array .int)) (by decide)
                have F729 : Fld Z h725 b725 "com/example/edgewise/edgewise/EdgeSlots" "sourcePositions" "[I" .null := D725 (Or.inl (wi hw 18 rfl)) (ty := (.array .int)) (by decide)
                have F730 : Fld Z h725 b725 "com/example/edgewise/edgewise/EdgeSlots" "targetPositions" "[I" .null := D725 (Or.inl (wi hw 20 rfl)) (ty := (.array .int)) (by decide)
                have F731 : Fld Z h725 b725 "com/example/edgewise/edgewise/EdgeSlots" "weights" "[D" .null := D725 (Or.inl (wi hw 23 rfl)) (ty := (.array .double)) (by decide)
                have F732 : Fld Z h725 b725 "com/example/edgewise/edgewise/EdgeSlots" "keys" "[I" .null := D725 (Or.inl (wi hw 25 rfl)) (ty := (.array .int)) (by decide)
                have F733 : Fld Z h725 b725 "com/example/edgewise/edgewise/EdgeSlots" "keptNumbers" "[J" .null := D725 (Or.inl (wi hw 27 rfl)) (ty := (.array .long)) (by decide)
                have F734 : Fld Z h725 b725 "com/example/edgewise/edgewise/EdgeSlots" "keyed" "Z" (.int (0 : Int32)) := D725 (Or.inr (wi hw 29 rfl)) (ty := .boolean) (by decide)
                have F735 : Fld Z h725 b725 "com/example/edgewise/edgewise/EdgeSlots" "bound" "I" (.int (0 : Int32)) := D725 (Or.inl (wi hw 36 rfl)) (ty := .int) (by decide)
                have F736 : Fld Z h725 b725 "com/example/edgewise/edgewise/EdgeSlots" "count" "I" (.int (0 : Int32)) := D725 (Or.inl (wi hw 71 rfl)) (ty := .int) (by decide)
                have F737 : Fld Z h725 b725 "com/example/edgewise/edgewise/EdgeSlots" "nextNumber" "J" (.long (0 : Int64)) := D725 (Or.inl (wi hw 73 rfl)) (ty := .long) (by decide)
                refine g_dup X725 hx hby at_150 (pc' := 151) rfl rfl ?_
                refine g_iloadN X725 hx hby at_151 (pc' := 152) rfl rfl ?_
                refine Go.callI X725 hx hZ hown rfl (wi hw 7 rfl) (wi hw 8 rfl) (wi hw 6 rfl) (wi hw 9 rfl) (by decide) e725 (a := b725) (argsL := [(.int (1 : Int32))]) (rest := [(.ref b725)]) (W := 1) (rm_init1 l Z a0 hw b725 h725 n0 (Nat.le_trans zj138 E725.1) A725 F727 F728 F729 F730 F731 F732 F733 F734 F735 F736 F737 g726) (hb hby at_152) (by rw [hml]; rfl) rfl pd7 rfl rfl (by decide) (by decide) (by decide) (by decide) ?_
                intro v738 T738 L738 X738 hQ738
                obtain ⟨h738, e738⟩ : ∃ z, T738.heap = z := ⟨_, rfl⟩
                rw [e738] at hQ738
                obtain ⟨b1_738, b2_738, b3_738, b4_738, b5_738, b6_738, b7_738, rfl, Nq738, Kq738, gqb1_738, sqb1_738, gqb2_738, sqb2_738, gqb3_738, sqb3_738, gqb4_738, sqb4_738, gqb5_738, sqb5_738, gqb6_738, sqb6_738, gqb7_738, sqb7_738, nqb1_b2_738, nqb1_b3_738, nqb1_b4_738, nqb1_b5_738, nqb1_b6_738, nqb1_b7_738, nqb2_b3_738, nqb2_b4_738, nqb2_b5_738, nqb2_b6_738, nqb2_b7_738, nqb3_b4_738, nqb3_b5_738, nqb3_b6_738, nqb3_b7_738, nqb4_b5_738, nqb4_b6_738, nqb4_b7_738, nqb5_b6_738, nqb5_b7_738, nqb6_b7_738, Fq0_738, Fq1_738, Fq2_738, Fq3_738, Fq4_738, Fq5_738, Fq6_738, Fq7_738, Fq8_738, Fq9_738, Fq10_738, Fq11_738, Fq12_738, Fq13_738, Fq14_738, Fq15_738, Fq16_738, Fq17_738⟩ := hQ738
                have N738 := Fr.app Nj138 Nq738
                refine Go.void (pc' := 155) rfl ?_
                refine g_astore X738 hx hby at_155 (pc' := 157) rfl rfl (L' := #[.val (.int p1), .val (.int p2), .val (.int p3), .val (.int (1 : Int32)), .val (.int (1 : Int32)), .val (.int (1 : Int32)), .val (.int av), .val (.int ra), .val (.ref b607), .val (.ref b611), .val (.int nv), .val (.int v619), .val (.ref b725), .unset, .unset]) rfl ?_
                refine g_aload X738 hx hby at_157 (pc' := 159) rfl rfl rfl ?_
                refine g_iconst X738 hx hby at_159 (pc' := 160) rfl (z := (0 : Int32)) rfl ?_
                refine g_iconst X738 hx hby at_160 (pc' := 161) rfl (z := (0 : Int32)) rfl ?_
                refine Go.of (fun _ k => XS.dconst0 X738.here hx rfl (hb hby at_161) (v := FP.dconst0) rfl k) ?_
                show Go p.tables e below s _ _ _ (T738.setTop (mkF m 162 #[.val (.int p1), .val (.int p2), .val (.int p3), .val (.int (1 : Int32)), .val (.int (1 : Int32)), .val (.int (1 : Int32)), .val (.int av), .val (.int ra), .val (.ref b607), .val (.ref b611), .val (.int nv), .val (.int v619), .val (.ref b725), .unset, .unset] [(.double FP.dconst0), (.int (0 : Int32)), (.int (0 : Int32)), (.ref b725)]))
                refine g_iloadN X738 hx hby at_162 (pc' := 163) rfl rfl ?_
                have f740 := A725.keep Kq738
                have ne741 : b725 ≠ b1_738 := Nat.ne_of_lt (Nat.lt_of_lt_of_le F737.lt sqb1_738)
                have ne742 : b725 ≠ b2_738 := Nat.ne_of_lt (Nat.lt_of_lt_of_le F737.lt sqb2_738)
                have ne743 : b725 ≠ b3_738 := Nat.ne_of_lt (Nat.lt_of_lt_of_le F737.lt sqb3_738)
                have ne744 : b725 ≠ b4_738 := Nat.ne_of_lt (Nat.lt_of_lt_of_le F737.lt sqb4_738)
                have ne745 : b725 ≠ b5_738 := Nat.ne_of_lt (Nat.lt_of_lt_of_le F737.lt sqb5_738)
                have ne746 : b725 ≠ b6_738 := Nat.ne_of_lt (Nat.lt_of_lt_of_le F737.lt sqb6_738)
                refine Go.callV X738 hx hZ hown (wi hw 30 rfl) (wi hw 31 rfl) (notFace_of_selects (args := #[]) (mvT hZ (wi hw 33 rfl))) (wi hw 33 rfl) (wi hw 32 rfl) (wi hw 6 rfl) (wi hw 34 rfl) (by decide) e738 (a := b725) (argsL := [(.int (0 : Int32)), (.int (0 : Int32)), (.double FP.dconst0), (.int p3)]) (rest := []) (W := 0) f740 (rm_addA1 l Z a0 hw b725 (0 : Int32) (0 : Int32) FP.dconst0 p3 b1_738 b2_738 b3_738 b4_738 b5_738 b6_738 b7_738 (fun _ => (0 : Int32)) (fun _ => (0 : Int32)) (fun _ => (0 : Int32)) (fun _ => (0 : Int32)) (fun _ => (0 : UInt64)) (fun _ => (0 : Int32)) (0 : Int32) (0 : Int64) h738 n0 (Nat.le_trans (Nat.le_trans zj138 E725.1) Kq738.1) f740 Fq7_738 Fq6_738 Fq0_738 Fq1_738 Fq2_738 Fq3_738 Fq4_738 Fq5_738 Fq11_738 Fq12_738 Fq13_738 Fq14_738 Fq15_738 Fq16_738 Fq8_738 Fq9_738 Fq10_738 (Ne.symm ne741) (Ne.symm ne742) (Ne.symm ne743) (Ne.symm ne744) (Ne.symm ne745) (Ne.symm ne746) g726) (hb hby at_163) (by rw [hml]; rfl) rfl pd8 rfl rfl (by decide) (by decide) (by decide) (by decide) ?_
                intro v739 T739 L739 X739 hQ739
                obtain ⟨h739, e739⟩ : ∃ z, T739.heap = z := ⟨_, rfl⟩
                rw [e739] at hQ739
                obtain ⟨b1_739, b2_739, b3_739, b4_739, b5_739, b6_739, rfl, Nq739, Kq739, gqb1_739, sqb1_739, gqb2_739, sqb2_739, gqb3_739, sqb3_739, gqb4_739, sqb4_739, gqb5_739, sqb5_739, gqb6_739, sqb6_739, nqb1_b2_739, nqb1_b3_739, nqb1_b4_739, nqb1_b5_739, nqb1_b6_739, nqb2_b3_739, nqb2_b4_739, nqb2_b5_739, nqb2_b6_739, nqb3_b4_739, nqb3_b5_739, nqb3_b6_739, nqb4_b5_739, nqb4_b6_739, nqb5_b6_739, Fq0_739, Fq1_739, Fq2_739, Fq3_739, Fq4_739, Fq5_739, Fq6_739, Fq7_739, Fq8_739, Fq9_739, Fq10_739, Fq11_739, Fq12_739, Fq13_739, Fq14_739, Fq15_739, Fq16_739⟩ := hQ739
                have N739 := Fr.app N738 Nq739
                have Fq9_739 : Fld Z h739 b725 kES "count" "I" (.int (1 : Int32)) := Fq9_739
                have Fq10_739 : Fld Z h739 b725 kES "nextNumber" "J" (.long (1 : Int64)) := Fq10_739
                refine Go.push (pc' := 166) rfl ?_
                refine g_istore X739 hx hby at_166 (pc' := 168) rfl (L' := #[.val (.int p1), .val (.int p2), .val (.int p3), .val (.int (1 : Int32)), .val (.int (1 : Int32)), .val (.int (1 : Int32)), .val (.int av), .val (.int ra), .val (.ref b607), .val (.ref b611), .val (.int nv), .val (.int v619), .val (.ref b725), .val (.int (0 : Int32)), .unset]) rfl ?_
                have V747 : ArF Z h739 b1_739 .int 4 (fun i => .int ((own_l [(0 : Int32), (0 : Int32), (0 : Int32), (0 : Int32)]) i)) := Fq11_739.congr (fun i hi => congrArg Value.int ((by decide : ∀ i, i < 4 → (own_l [(0 : Int32), (0 : Int32), (0 : Int32), (0 : Int32)]) i = (upI (fun _ => (0 : Int32)) 0 (0 : Int32)) i) i hi))
                have V748 : ArF Z h739 b2_739 .int 4 (fun i => .int ((own_l [(0 : Int32), (0 : Int32), (0 : Int32), (0 : Int32)]) i)) := Fq12_739.congr (fun i hi => congrArg Value.int ((by decide : ∀ i, i < 4 → (own_l [(0 : Int32), (0 : Int32), (0 : Int32), (0 : Int32)]) i = (upI (fun _ => (0 : Int32)) 0 (0 : Int32)) i) i hi))
                have ne749 : b607 ≠ b725 := Nat.ne_of_lt (by rw [hb725]; exact fj138_0.lt)
                have f750 := (((fj138_0.ext E725).keep Kq738 (ninS ne749 nin0)).keep Kq739 (ninS ne749 nin0))
                refine g_iload X739 hx hby at_168 (pc' := 170) rfl rfl ?_
                have hc170 : ¬ ((1 : Int) = (0 : Int)) := by decide
                refine g_ifNo X739 hx hby at_170 (pc' := 173) (feq (show ¬ ((1 : Int32) = (0 : Int32)) from fun q => hc170 (congrArg Int32.toInt q))).1 rfl ?_
                refine g_aload X739 hx hby at_173 (pc' := 175) rfl rfl rfl ?_
                refine g_iload X739 hx hby at_175 (pc' := 177) rfl rfl ?_
                have f752 := f740.keep Kq739
                have ne753 : b725 ≠ b1_739 := Nat.ne_of_lt (Nat.lt_of_lt_of_le f740.lt sqb1_739)
                have ne754 : b725 ≠ b2_739 := Nat.ne_of_lt (Nat.lt_of_lt_of_le f740.lt sqb2_739)
                refine Go.callV X739 hx hZ hown (wi hw 87 rfl) (wi hw 88 rfl) (notFace_of_selects (args := #[]) (mvT hZ (wi hw 90 rfl))) (wi hw 90 rfl) (wi hw 89 rfl) (wi hw 6 rfl) (wi hw 91 rfl) (by decide) e739 (a := b725) (argsL := [(.int (0 : Int32))]) (rest := []) (W := 0) f752 (rm_remove4 l Z a0 hw b725 (0 : Int32) b1_739 b2_739 (own_l [(0 : Int32), (0 : Int32), (0 : Int32), (0 : Int32)]) (own_l [(0 : Int32), (0 : Int32), (0 : Int32), (0 : Int32)]) (1 : Int32) (1 : Int32) 0 (1 : Int32) b3_739 b4_739 b5_739 b6_739 b7_738 (1 : Int64) h739 n0 (Nat.le_trans (Nat.le_trans (Nat.le_trans zj138 E725.1) Kq738.1) Kq739.1) f752 Fq2_739 Fq3_739 V747 V748 Fq8_739 Fq9_739 Fq0_739 Fq4_739 Fq5_739 Fq6_739 Fq7_739 Fq1_739 Fq10_739 (Ne.symm ne753) (Ne.symm ne754) nqb1_b2_739 g726 gqb1_739 gqb2_739 rfl (by decide)) (hb hby at_177) (by rw [hml]; rfl) rfl pd5 rfl rfl (by decide) (by decide) (by decide) (by decide) ?_
                intro v751 T751 L751 X751 hQ751
                obtain ⟨h751, e751⟩ : ∃ z, T751.heap = z := ⟨_, rfl⟩
                rw [e751] at hQ751
                obtain ⟨rfl, Nq751, Kq751, Fq0_751, Fq1_751, Fq2_751, Fq3_751, Fq4_751, Fq5_751, Fq6_751, Fq7_751, Fq8_751, Fq9_751, Fq10_751, Fq11_751, Fq12_751⟩ := hQ751
                have N751 := Fr.app N739 Nq751
                have Fq5_751 : Fld Z h751 b725 kES "count" "I" (.int (0 : Int32)) := Fq5_751
                refine Go.void (pc' := 180) rfl ?_
                have V755 : ArF Z h751 b1_739 .int 4 (fun i => .int ((own_l [(-1 : Int32), (0 : Int32), (0 : Int32), (0 : Int32)]) i)) := Fq2_751.congr (fun i hi => congrArg Value.int ((by decide : ∀ i, i < 4 → (own_l [(-1 : Int32), (0 : Int32), (0 : Int32), (0 : Int32)]) i = (upI (own_l [(0 : Int32), (0 : Int32), (0 : Int32), (0 : Int32)]) 0 (-1 : Int32)) i) i hi))
                have V756 : ArF Z h751 b2_739 .int 4 (fun i => .int ((own_l [(-1 : Int32), (0 : Int32), (0 : Int32), (0 : Int32)]) i)) := Fq3_751.congr (fun i hi => congrArg Value.int ((by decide : ∀ i, i < 4 → (own_l [(-1 : Int32), (0 : Int32), (0 : Int32), (0 : Int32)]) i = (upI (own_l [(0 : Int32), (0 : Int32), (0 : Int32), (0 : Int32)]) 0 (-1 : Int32)) i) i hi))
                have ne757 : b607 ≠ b2_739 := Nat.ne_of_lt (Nat.lt_of_lt_of_le ((fj138_0.ext E725).keep Kq738 (ninS ne749 nin0)).lt sqb2_739)
                have ne758 : b607 ≠ b1_739 := Nat.ne_of_lt (Nat.lt_of_lt_of_le ((fj138_0.ext E725).keep Kq738 (ninS ne749 nin0)).lt sqb1_739)
                have f759 := (f750.keep Kq751 (ninS ne749 (ninS ne758 (ninS ne757 nin0))))
                refine g_aload X751 hx hby at_180 (pc' := 182) rfl rfl rfl ?_
                refine g_aload X751 hx hby at_182 (pc' := 184) rfl rfl rfl ?_
                refine g_aconst_null X751 hx hby at_184 (pc' := 185) rfl  ?_
                refine g_aconst_null X751 hx hby at_185 (pc' := 186) rfl  ?_
                have f761 := f752.keep Kq751
                have ne762 : b725 ≠ b7_738 := Nat.ne_of_lt (Nat.lt_of_lt_of_le F737.lt sqb7_738)
                have ne763 : b7_738 ≠ b2_739 := Nat.ne_of_lt (Nat.lt_of_lt_of_le Fq17_738.lt sqb2_739)
                have ne764 : b7_738 ≠ b1_739 := Nat.ne_of_lt (Nat.lt_of_lt_of_le Fq17_738.lt sqb1_739)
                have f765 := ((Fq17_738.keep Kq739 (ninS (Ne.symm ne762) nin0)).keep Kq751 (ninS (Ne.symm ne762) (ninS ne764 (ninS ne763 nin0))))
                refine Go.callV X751 hx hZ hown (wi hw 74 rfl) (wi hw 75 rfl) (notFace_of_selects (args := #[]) (mvT hZ (wi hw 77 rfl))) (wi hw 77 rfl) (wi hw 76 rfl) (wi hw 6 rfl) (wi hw 78 rfl) (by decide) e751 (a := b725) (argsL := [(.ref b607), .null, .null]) (rest := []) (W := 0) f761 (rm_compactA1 l Z a0 hw b725 b607 b1_739 b2_739 b7_738 (1 : Int32) b3_739 b4_739 b5_739 b6_739 (fun _ => (0 : Int64)) h751 n0 (Nat.le_trans (Nat.le_trans (Nat.le_trans (Nat.le_trans zj138 E725.1) Kq738.1) Kq739.1) Kq751.1) f761 Fq0_751 Fq1_751 Fq4_751 Fq5_751 Fq11_751 Fq12_751 Fq6_751 Fq7_751 Fq8_751 Fq9_751 Fq10_751 V755 V756 f765 f759 (Ne.symm ne753) (Ne.symm ne754) nqb1_b2_739 (Ne.symm ne762) ne764 ne763 ne749 ne758 ne757 g726 gqb1_739 gqb2_739) (hb hby at_186) (by rw [hml]; rfl) rfl pd9 rfl rfl (by decide) (by decide) (by decide) (by decide) ?_
                intro v760 T760 L760 X760 hQ760
                obtain ⟨h760, e760⟩ : ∃ z, T760.heap = z := ⟨_, rfl⟩
                rw [e760] at hQ760
                obtain ⟨b1_760, rfl, Nq760, Kq760, gqb1_760, sqb1_760, Fq0_760, Fq1_760, Fq2_760, Fq3_760, Fq4_760, Fq5_760, Fq6_760, Fq7_760, Fq8_760, Fq9_760, Fq10_760, Fq11_760, Fq12_760, Fq13_760⟩ := hQ760
                have N760 := Fr.app N751 Nq760
                refine Go.void (pc' := 189) rfl ?_
                have f766 := (f759.keep Kq760 (ninS ne749 (ninS ne758 (ninS ne757 nin0))))
                refine g_aload X760 hx hby at_189 (pc' := 191) rfl rfl rfl ?_
                refine g_iconst X760 hx hby at_191 (pc' := 192) rfl (z := (0 : Int32)) rfl ?_
                refine g_iconst X760 hx hby at_192 (pc' := 193) rfl (z := (0 : Int32)) rfl ?_
                refine Go.of (fun _ k => XS.dconst0 X760.here hx rfl (hb hby at_193) (v := FP.dconst0) rfl k) ?_
                show Go p.tables e below s _ _ _ (T760.setTop (mkF m 194 #[.val (.int p1), .val (.int p2), .val (.int p3), .val (.int (1 : Int32)), .val (.int (1 : Int32)), .val (.int (1 : Int32)), .val (.int av), .val (.int ra), .val (.ref b607), .val (.ref b611), .val (.int nv), .val (.int v619), .val (.ref b725), .val (.int (0 : Int32)), .unset] [(.double FP.dconst0), (.int (0 : Int32)), (.int (0 : Int32)), (.ref b725)]))
                refine g_iloadN X760 hx hby at_194 (pc' := 195) rfl rfl ?_
                have f768 := f761.keep Kq760
                have ne769 : b725 ≠ b5_739 := Nat.ne_of_lt (Nat.lt_of_lt_of_le f740.lt sqb5_739)
                have f770 := ((Fq15_739.keep Kq751 (ninS (Ne.symm ne769) (ninS (Ne.symm nqb1_b5_739) (ninS (Ne.symm nqb2_b5_739) nin0)))).keep Kq760 (ninS (Ne.symm ne769) (ninS (Ne.symm nqb1_b5_739) (ninS (Ne.symm nqb2_b5_739) nin0))))
                have ne771 : b725 ≠ b6_739 := Nat.ne_of_lt (Nat.lt_of_lt_of_le f740.lt sqb6_739)
                have f772 := ((Fq16_739.keep Kq751 (ninS (Ne.symm ne771) (ninS (Ne.symm nqb1_b6_739) (ninS (Ne.symm nqb2_b6_739) nin0)))).keep Kq760 (ninS (Ne.symm ne771) (ninS (Ne.symm nqb1_b6_739) (ninS (Ne.symm nqb2_b6_739) nin0))))
                refine Go.callV X760 hx hZ hown (wi hw 30 rfl) (wi hw 31 rfl) (notFace_of_selects (args := #[]) (mvT hZ (wi hw 33 rfl))) (wi hw 33 rfl) (wi hw 32 rfl) (wi hw 6 rfl) (wi hw 34 rfl) (by decide) e760 (a := b725) (argsL := [(.int (0 : Int32)), (.int (0 : Int32)), (.double FP.dconst0), (.int p3)]) (rest := []) (W := 0) f768 (rm_addB1 l Z a0 hw b725 (0 : Int32) (0 : Int32) FP.dconst0 p3 b1_739 b2_739 b3_739 b4_739 b5_739 b6_739 b1_760 (own_l [(-1 : Int32), (0 : Int32), (0 : Int32), (0 : Int32)]) (own_l [(-1 : Int32), (0 : Int32), (0 : Int32), (0 : Int32)]) (upD (fun _ => (0 : UInt64)) 0 FP.dconst0) (upI (fun _ => (0 : Int32)) 0 p3) (0 : Int32) (0 : Int32) (1 : Int64) 0 h760 n0 (Nat.le_trans (Nat.le_trans (Nat.le_trans (Nat.le_trans (Nat.le_trans zj138 E725.1) Kq738.1) Kq739.1) Kq751.1) Kq760.1) f768 Fq6_760 Fq4_760 Fq0_760 Fq1_760 Fq7_760 Fq8_760 Fq9_760 Fq10_760 Fq11_760 Fq12_760 f770 f772 Fq2_760 Fq3_760 Fq5_760 (Ne.symm ne753) (Ne.symm ne754) (Ne.symm ne769) (Ne.symm ne771) nqb1_b2_739 nqb1_b5_739 nqb1_b6_739 nqb2_b5_739 nqb2_b6_739 nqb5_b6_739 g726 gqb1_739 gqb2_739 gqb5_739 gqb6_739 rfl (by decide)) (hb hby at_195) (by rw [hml]; rfl) rfl pd8 rfl rfl (by decide) (by decide) (by decide) (by decide) ?_
                intro v767 T767 L767 X767 hQ767
                obtain ⟨h767, e767⟩ : ∃ z, T767.heap = z := ⟨_, rfl⟩
                rw [e767] at hQ767
                obtain ⟨rfl, Nq767, Kq767, Fq0_767, Fq1_767, Fq2_767, Fq3_767, Fq4_767, Fq5_767, Fq6_767, Fq7_767, Fq8_767, Fq9_767, Fq10_767, Fq11_767, Fq12_767, Fq13_767, Fq14_767⟩ := hQ767
                have N767 := Fr.app N760 Nq767
                have Fq8_767 : Fld Z h767 b725 kES "bound" "I" (.int (1 : Int32)) := Fq8_767
                have Fq9_767 : Fld Z h767 b725 kES "count" "I" (.int (1 : Int32)) := Fq9_767
                have Fq10_767 : Fld Z h767 b725 kES "nextNumber" "J" (.long (2 : Int64)) := Fq10_767
                refine Go.push (pc' := 198) rfl ?_
                refine g_pop X767 hx hby at_198 (pc' := 199) rfl rfl ?_
                have V773 : ArF Z h767 b1_739 .int 4 (fun i => .int ((own_l [(0 : Int32), (0 : Int32), (0 : Int32), (0 : Int32)]) i)) := Fq11_767.congr (fun i hi => congrArg Value.int ((by decide : ∀ i, i < 4 → (own_l [(0 : Int32), (0 : Int32), (0 : Int32), (0 : Int32)]) i = (upI (own_l [(-1 : Int32), (0 : Int32), (0 : Int32), (0 : Int32)]) 0 (0 : Int32)) i) i hi))
                have V774 : ArF Z h767 b2_739 .int 4 (fun i => .int ((own_l [(0 : Int32), (0 : Int32), (0 : Int32), (0 : Int32)]) i)) := Fq12_767.congr (fun i hi => congrArg Value.int ((by decide : ∀ i, i < 4 → (own_l [(0 : Int32), (0 : Int32), (0 : Int32), (0 : Int32)]) i = (upI (own_l [(-1 : Int32), (0 : Int32), (0 : Int32), (0 : Int32)]) 0 (0 : Int32)) i) i hi))
                have ne775 : b607 ≠ b6_739 := Nat.ne_of_lt (Nat.lt_of_lt_of_le ((fj138_0.ext E725).keep Kq738 (ninS ne749 nin0)).lt sqb6_739)
                have ne776 : b607 ≠ b5_739 := Nat.ne_of_lt (Nat.lt_of_lt_of_le ((fj138_0.ext E725).keep Kq738 (ninS ne749 nin0)).lt sqb5_739)
                have f777 := (f766.keep Kq767 (ninS ne749 (ninS ne758 (ninS ne757 (ninS ne776 (ninS ne775 nin0))))))
                refine g_aload X767 hx hby at_199 (pc' := 201) rfl rfl rfl ?_
                refine g_iconst X767 hx hby at_201 (pc' := 202) rfl (z := (0 : Int32)) rfl ?_
                refine g_iconst X767 hx hby at_202 (pc' := 203) rfl (z := (0 : Int32)) rfl ?_
                refine Go.of (fun _ k => XS.dconst0 X767.here hx rfl (hb hby at_203) (v := FP.dconst0) rfl k) ?_
                show Go p.tables e below s _ _ _ (T767.setTop (mkF m 204 #[.val (.int p1), .val (.int p2), .val (.int p3), .val (.int (1 : Int32)), .val (.int (1 : Int32)), .val (.int (1 : Int32)), .val (.int av), .val (.int ra), .val (.ref b607), .val (.ref b611), .val (.int nv), .val (.int v619), .val (.ref b725), .val (.int (0 : Int32)), .unset] [(.double FP.dconst0), (.int (0 : Int32)), (.int (0 : Int32)), (.ref b725)]))
                refine g_iloadN X767 hx hby at_204 (pc' := 205) rfl rfl ?_
                have f779 := f768.keep Kq767
                refine Go.callV X767 hx hZ hown (wi hw 30 rfl) (wi hw 31 rfl) (notFace_of_selects (args := #[]) (mvT hZ (wi hw 33 rfl))) (wi hw 33 rfl) (wi hw 32 rfl) (wi hw 6 rfl) (wi hw 34 rfl) (by decide) e767 (a := b725) (argsL := [(.int (0 : Int32)), (.int (0 : Int32)), (.double FP.dconst0), (.int p3)]) (rest := []) (W := 0) f779 (rm_addB1 l Z a0 hw b725 (0 : Int32) (0 : Int32) FP.dconst0 p3 b1_739 b2_739 b3_739 b4_739 b5_739 b6_739 b1_760 (own_l [(0 : Int32), (0 : Int32), (0 : Int32), (0 : Int32)]) (own_l [(0 : Int32), (0 : Int32), (0 : Int32), (0 : Int32)]) (upD (upD (fun _ => (0 : UInt64)) 0 FP.dconst0) 0 FP.dconst0) (upI (upI (fun _ => (0 : Int32)) 0 p3) 0 p3) (1 : Int32) (1 : Int32) (2 : Int64) 1 h767 n0 (Nat.le_trans (Nat.le_trans (Nat.le_trans (Nat.le_trans (Nat.le_trans (Nat.le_trans zj138 E725.1) Kq738.1) Kq739.1) Kq751.1) Kq760.1) Kq767.1) f779 Fq0_767 Fq1_767 Fq2_767 Fq3_767 Fq4_767 Fq5_767 Fq6_767 Fq7_767 V773 V774 Fq13_767 Fq14_767 Fq8_767 Fq9_767 Fq10_767 (Ne.symm ne753) (Ne.symm ne754) (Ne.symm ne769) (Ne.symm ne771) nqb1_b2_739 nqb1_b5_739 nqb1_b6_739 nqb2_b5_739 nqb2_b6_739 nqb5_b6_739 g726 gqb1_739 gqb2_739 gqb5_739 gqb6_739 rfl (by decide)) (hb hby at_205) (by rw [hml]; rfl) rfl pd8 rfl rfl (by decide) (by decide) (by decide) (by decide) ?_
                intro v778 T778 L778 X778 hQ778
                obtain ⟨h778, e778⟩ : ∃ z, T778.heap = z := ⟨_, rfl⟩
                rw [e778] at hQ778
                obtain ⟨rfl, Nq778, Kq778, Fq0_778, Fq1_778, Fq2_778, Fq3_778, Fq4_778, Fq5_778, Fq6_778, Fq7_778, Fq8_778, Fq9_778, Fq10_778, Fq11_778, Fq12_778, Fq13_778, Fq14_778⟩ := hQ778
                have N778 := Fr.app N767 Nq778
                have z780 : n0 ≤ h778.size := (Nat.le_trans (Nat.le_trans (Nat.le_trans (Nat.le_trans (Nat.le_trans (Nat.le_trans (Nat.le_trans zj138 E725.1) Kq738.1) Kq739.1) Kq751.1) Kq760.1) Kq767.1) Kq778.1)
                have Fq8_778 : Fld Z h778 b725 kES "bound" "I" (.int (2 : Int32)) := Fq8_778
                have Fq9_778 : Fld Z h778 b725 kES "count" "I" (.int (2 : Int32)) := Fq9_778
                have Fq10_778 : Fld Z h778 b725 kES "nextNumber" "J" (.long (3 : Int64)) := Fq10_778
                refine Go.push (pc' := 208) rfl ?_
                refine g_istore X778 hx hby at_208 (pc' := 210) rfl (L' := #[.val (.int p1), .val (.int p2), .val (.int p3), .val (.int (1 : Int32)), .val (.int (1 : Int32)), .val (.int (1 : Int32)), .val (.int av), .val (.int ra), .val (.ref b607), .val (.ref b611), .val (.int nv), .val (.int v619), .val (.ref b725), .val (.int (0 : Int32)), .val (.int (1 : Int32))]) rfl ?_
                have V781 : ArF Z h778 b1_739 .int 4 (fun i => .int ((own_l [(0 : Int32), (0 : Int32), (0 : Int32), (0 : Int32)]) i)) := Fq11_778.congr (fun i hi => congrArg Value.int ((by decide : ∀ i, i < 4 → (own_l [(0 : Int32), (0 : Int32), (0 : Int32), (0 : Int32)]) i = (upI (own_l [(0 : Int32), (0 : Int32), (0 : Int32), (0 : Int32)]) 1 (0 : Int32)) i) i hi))
                have V782 : ArF Z h778 b2_739 .int 4 (fun i => .int ((own_l [(0 : Int32), (0 : Int32), (0 : Int32), (0 : Int32)]) i)) := Fq12_778.congr (fun i hi => congrArg Value.int ((by decide : ∀ i, i < 4 → (own_l [(0 : Int32), (0 : Int32), (0 : Int32), (0 : Int32)]) i = (upI (own_l [(0 : Int32), (0 : Int32), (0 : Int32), (0 : Int32)]) 1 (0 : Int32)) i) i hi))
                have f783 := (f777.keep Kq778 (ninS ne749 (ninS ne758 (ninS ne757 (ninS ne776 (ninS ne775 nin0))))))
                refine g_iload X778 hx hby at_210 (pc' := 212) rfl rfl ?_
                have hc212 : ¬ ((1 : Int) = (0 : Int)) := by decide
                refine g_ifNo X778 hx hby at_212 (pc' := 215) (feq (show ¬ ((1 : Int32) = (0 : Int32)) from fun q => hc212 (congrArg Int32.toInt q))).1 rfl ?_
                refine g_aload X778 hx hby at_215 (pc' := 217) rfl rfl rfl ?_
                refine g_iload X778 hx hby at_217 (pc' := 219) rfl rfl ?_
                have f785 := f779.keep Kq778
                refine Go.callV X778 hx hZ hown (wi hw 87 rfl) (wi hw 88 rfl) (notFace_of_selects (args := #[]) (mvT hZ (wi hw 90 rfl))) (wi hw 90 rfl) (wi hw 89 rfl) (wi hw 6 rfl) (wi hw 91 rfl) (by decide) e778 (a := b725) (argsL := [(.int (1 : Int32))]) (rest := []) (W := 0) f785 (rm_remove4 l Z a0 hw b725 (1 : Int32) b1_739 b2_739 (own_l [(0 : Int32), (0 : Int32), (0 : Int32), (0 : Int32)]) (own_l [(0 : Int32), (0 : Int32), (0 : Int32), (0 : Int32)]) (2 : Int32) (2 : Int32) 1 (1 : Int32) b3_739 b4_739 b5_739 b6_739 b1_760 (3 : Int64) h778 n0 z780 f785 Fq2_778 Fq3_778 V781 V782 Fq8_778 Fq9_778 Fq0_778 Fq4_778 Fq5_778 Fq6_778 Fq7_778 Fq1_778 Fq10_778 (Ne.symm ne753) (Ne.symm ne754) nqb1_b2_739 g726 gqb1_739 gqb2_739 rfl (by decide)) (hb hby at_219) (by rw [hml]; rfl) rfl pd5 rfl rfl (by decide) (by decide) (by decide) (by decide) ?_
                intro v784 T784 L784 X784 hQ784
                obtain ⟨h784, e784⟩ : ∃ z, T784.heap = z := ⟨_, rfl⟩
                rw [e784] at hQ784
                obtain ⟨rfl, Nq784, Kq784, Fq0_784, Fq1_784, Fq2_784, Fq3_784, Fq4_784, Fq5_784, Fq6_784, Fq7_784, Fq8_784, Fq9_784, Fq10_784, Fq11_784, Fq12_784⟩ := hQ784
                have N784 := Fr.app N778 Nq784
                have Fq5_784 : Fld Z h784 b725 kES "count" "I" (.int (1 : Int32)) := Fq5_784
                refine Go.void (pc' := 222) rfl ?_
                have V786 : ArF Z h784 b1_739 .int 4 (fun i => .int ((own_l [(0 : Int32), (-1 : Int32), (0 : Int32), (0 : Int32)]) i)) := Fq2_784.congr (fun i hi => congrArg Value.int ((by decide : ∀ i, i < 4 → (own_l [(0 : Int32), (-1 : Int32), (0 : Int32), (0 : Int32)]) i = (upI (own_l [(0 : Int32), (0 : Int32), (0 : Int32), (0 : Int32)]) 1 (-1 : Int32)) i) i hi))
                have V787 : ArF Z h784 b2_739 .int 4 (fun i => .int ((own_l [(0 : Int32), (-1 : Int32), (0 : Int32), (0 : Int32)]) i)) := Fq3_784.congr (fun i hi => congrArg Value.int ((by decide : ∀ i, i < 4 → (own_l [(0 : Int32), (-1 : Int32), (0 : Int32), (0 : Int32)]) i = (upI (own_l [(0 : Int32), (0 : Int32), (0 : Int32), (0 : Int32)]) 1 (-1 : Int32)) i) i hi))
                have f788 := (f783.keep Kq784 (ninS ne749 (ninS ne758 (ninS ne757 nin0))))
                refine g_aload X784 hx hby at_222 (pc' := 224) rfl rfl rfl ?_
                refine g_aload X784 hx hby at_224 (pc' := 226) rfl rfl rfl ?_
                refine g_aconst_null X784 hx hby at_226 (pc' := 227) rfl  ?_
                refine g_aconst_null X784 hx hby at_227 (pc' := 228) rfl  ?_
                have f790 := f785.keep Kq784
                have ne791 : b6_739 ≠ b1_760 := Nat.ne_of_lt (Nat.lt_of_lt_of_le (Fq16_739.keep Kq751 (ninS (Ne.symm ne771) (ninS (Ne.symm nqb1_b6_739) (ninS (Ne.symm nqb2_b6_739) nin0)))).lt sqb1_760)
                have ne792 : b5_739 ≠ b1_760 := Nat.ne_of_lt (Nat.lt_of_lt_of_le (Fq15_739.keep Kq751 (ninS (Ne.symm ne769) (ninS (Ne.symm nqb1_b5_739) (ninS (Ne.symm nqb2_b5_739) nin0)))).lt sqb1_760)
                have ne793 : b2_739 ≠ b1_760 := Nat.ne_of_lt (Nat.lt_of_lt_of_le V756.lt sqb1_760)
                have ne794 : b1_739 ≠ b1_760 := Nat.ne_of_lt (Nat.lt_of_lt_of_le V755.lt sqb1_760)
                have ne795 : b725 ≠ b1_760 := Nat.ne_of_lt (Nat.lt_of_lt_of_le f761.lt sqb1_760)
                have f796 := (((Fq13_760.keep Kq767 (ninS (Ne.symm ne795) (ninS (Ne.symm ne794) (ninS (Ne.symm ne793) (ninS (Ne.symm ne792) (ninS (Ne.symm ne791) nin0)))))).keep Kq778 (ninS (Ne.symm ne795) (ninS (Ne.symm ne794) (ninS (Ne.symm ne793) (ninS (Ne.symm ne792) (ninS (Ne.symm ne791) nin0)))))).keep Kq784 (ninS (Ne.symm ne795) (ninS (Ne.symm ne794) (ninS (Ne.symm ne793) nin0))))
                refine Go.callV X784 hx hZ hown (wi hw 74 rfl) (wi hw 75 rfl) (notFace_of_selects (args := #[]) (mvT hZ (wi hw 77 rfl))) (wi hw 77 rfl) (wi hw 76 rfl) (wi hw 6 rfl) (wi hw 78 rfl) (by decide) e784 (a := b725) (argsL := [(.ref b607), .null, .null]) (rest := []) (W := 0) f790 (rm_compactB11 l Z a0 hw b725 b607 b1_739 b2_739 b1_760 (1 : Int32) b3_739 b4_739 b5_739 b6_739 (fun _ => (0 : Int64)) h784 n0 (Nat.le_trans z780 Kq784.1) f790 Fq0_784 Fq1_784 Fq4_784 Fq5_784 Fq11_784 Fq12_784 Fq6_784 Fq7_784 Fq8_784 Fq9_784 Fq10_784 V786 V787 f796 f788 (Ne.symm ne753) (Ne.symm ne754) nqb1_b2_739 (Ne.symm ne795) (Ne.symm ne794) (Ne.symm ne793) ne749 ne758 ne757 g726 gqb1_739 gqb2_739) (hb hby at_228) (by rw [hml]; rfl) rfl pd9 rfl rfl (by decide) (by decide) (by decide) (by decide) ?_
                intro v789 T789 L789 X789 hQ789
                obtain ⟨h789, e789⟩ : ∃ z, T789.heap = z := ⟨_, rfl⟩
                rw [e789] at hQ789
                obtain ⟨b1_789, rfl, Nq789, Kq789, gqb1_789, sqb1_789, Fq0_789, Fq1_789, Fq2_789, Fq3_789, Fq4_789, Fq5_789, Fq6_789, Fq7_789, Fq8_789, Fq9_789, Fq10_789, Fq11_789, Fq12_789, Fq13_789⟩ := hQ789
                have N789 := Fr.app N784 Nq789
                refine Go.void (pc' := 231) rfl ?_
                have f797 := (f788.keep Kq789 (ninS ne749 (ninS ne758 (ninS ne757 nin0))))
                have hA0 := hJ52
                rcases hA0 with hA | hA
                · have hA' := congrArg Int32.toInt hA
                  refine g_iload X789 hx hby at_231 (pc' := 233) rfl rfl ?_
                  have hc233 : av.toInt = (0 : Int) := hA'
                  refine g_ifYes X789 hx hby at_233 (pc' := 246) (teq (show av = (0 : Int32) from Int32.toInt_inj.mp hc233)).1 (by decide) (by decide) ?_
                  have ne798 : b725 ≠ b1_789 := Nat.ne_of_lt (Nat.lt_of_lt_of_le f790.lt sqb1_789)
                  have ne799 : b1_739 ≠ b1_789 := Nat.ne_of_lt (Nat.lt_of_lt_of_le V786.lt sqb1_789)
                  have ne800 : b2_739 ≠ b1_789 := Nat.ne_of_lt (Nat.lt_of_lt_of_le V787.lt sqb1_789)
                  have ne801 : b611 ≠ b725 := Nat.ne_of_lt (by rw [hb725]; exact fj138_1.lt)
                  have ne802 : b611 ≠ b1_739 := Nat.ne_of_lt (Nat.lt_of_lt_of_le ((fj138_1.ext E725).keep Kq738 (ninS ne801 nin0)).lt sqb1_739)
                  have ne803 : b611 ≠ b2_739 := Nat.ne_of_lt (Nat.lt_of_lt_of_le ((fj138_1.ext E725).keep Kq738 (ninS ne801 nin0)).lt sqb2_739)
                  have f804 := f790.keep Kq789
                  have ne805 : b611 ≠ b6_739 := Nat.ne_of_lt (Nat.lt_of_lt_of_le ((fj138_1.ext E725).keep Kq738 (ninS ne801 nin0)).lt sqb6_739)
                  have ne806 : b611 ≠ b5_739 := Nat.ne_of_lt (Nat.lt_of_lt_of_le ((fj138_1.ext E725).keep Kq738 (ninS ne801 nin0)).lt sqb5_739)
                  have f807 := (((((((((fj138_1.ext E725).keep Kq738 (ninS ne801 nin0)).keep Kq739 (ninS ne801 nin0)).keep Kq751 (ninS ne801 (ninS ne802 (ninS ne803 nin0)))).keep Kq760 (ninS ne801 (ninS ne802 (ninS ne803 nin0)))).keep Kq767 (ninS ne801 (ninS ne802 (ninS ne803 (ninS ne806 (ninS ne805 nin0)))))).keep Kq778 (ninS ne801 (ninS ne802 (ninS ne803 (ninS ne806 (ninS ne805 nin0)))))).keep Kq784 (ninS ne801 (ninS ne802 (ninS ne803 nin0)))).keep Kq789 (ninS ne801 (ninS ne802 (ninS ne803 nin0))))
                  exact J246a0 (T789, _, h789, (1 : Int32), (0 : Int32), (1 : Int32), b725, b1_739, b2_739, b1_789) ⟨X789.more (by decide) (by decide), e789, N789, (Nat.le_trans (Nat.le_trans z780 Kq784.1) Kq789.1), f804, Fq0_789, Fq1_789, Fq2_789, Fq3_789, Fq4_789, Fq5_789, Fq11_789, Fq12_789, Fq13_789, f807, (show b1_739 ≠ b725 ∧ b2_739 ≠ b725 ∧ b1_739 ≠ b2_739 ∧ b1_789 ≠ b725 ∧ b1_789 ≠ b1_739 ∧ b1_789 ≠ b2_739 ∧ b611 ≠ b725 ∧ b611 ≠ b1_739 ∧ b611 ≠ b2_739 ∧ n0 ≤ b725 ∧ n0 ≤ b1_739 ∧ n0 ≤ b2_739 ∧ av = (0 : Int32) from ⟨(Ne.symm ne753), (Ne.symm ne754), nqb1_b2_739, (Ne.symm ne798), (Ne.symm ne799), (Ne.symm ne800), ne801, ne802, ne803, g726, gqb1_739, gqb2_739, hA⟩)⟩
                · have hA' := congrArg Int32.toInt hA
                  refine g_iload X789 hx hby at_231 (pc' := 233) rfl rfl ?_
                  have hc233 : ¬ (av.toInt = (0 : Int)) := by intro q; rw [hA'] at q; exact absurd q (by decide)
                  refine g_ifNo X789 hx hby at_233 (pc' := 236) (feq (show ¬ (av = (0 : Int32)) from fun q => hc233 (congrArg Int32.toInt q))).1 rfl ?_
                  refine g_aload X789 hx hby at_236 (pc' := 238) rfl rfl rfl ?_
                  refine g_iconst X789 hx hby at_238 (pc' := 239) rfl (z := (0 : Int32)) rfl ?_
                  refine g_iconst X789 hx hby at_239 (pc' := 240) rfl (z := (0 : Int32)) rfl ?_
                  refine Go.of (fun _ k => XS.dconst0 X789.here hx rfl (hb hby at_240) (v := FP.dconst0) rfl k) ?_
                  show Go p.tables e below s _ _ _ (T789.setTop (mkF m 241 #[.val (.int p1), .val (.int p2), .val (.int p3), .val (.int (1 : Int32)), .val (.int (1 : Int32)), .val (.int (1 : Int32)), .val (.int av), .val (.int ra), .val (.ref b607), .val (.ref b611), .val (.int nv), .val (.int v619), .val (.ref b725), .val (.int (0 : Int32)), .val (.int (1 : Int32))] [(.double FP.dconst0), (.int (0 : Int32)), (.int (0 : Int32)), (.ref b725)]))
                  refine g_iloadN X789 hx hby at_241 (pc' := 242) rfl rfl ?_
                  have f809 := f790.keep Kq789
                  have f810 := ((Fq13_778.keep Kq784 (ninS (Ne.symm ne769) (ninS (Ne.symm nqb1_b5_739) (ninS (Ne.symm nqb2_b5_739) nin0)))).keep Kq789 (ninS (Ne.symm ne769) (ninS (Ne.symm nqb1_b5_739) (ninS (Ne.symm nqb2_b5_739) nin0))))
                  have f811 := ((Fq14_778.keep Kq784 (ninS (Ne.symm ne771) (ninS (Ne.symm nqb1_b6_739) (ninS (Ne.symm nqb2_b6_739) nin0)))).keep Kq789 (ninS (Ne.symm ne771) (ninS (Ne.symm nqb1_b6_739) (ninS (Ne.symm nqb2_b6_739) nin0))))
                  refine Go.callV X789 hx hZ hown (wi hw 30 rfl) (wi hw 31 rfl) (notFace_of_selects (args := #[]) (mvT hZ (wi hw 33 rfl))) (wi hw 33 rfl) (wi hw 32 rfl) (wi hw 6 rfl) (wi hw 34 rfl) (by decide) e789 (a := b725) (argsL := [(.int (0 : Int32)), (.int (0 : Int32)), (.double FP.dconst0), (.int p3)]) (rest := []) (W := 0) f809 (rm_addB1 l Z a0 hw b725 (0 : Int32) (0 : Int32) FP.dconst0 p3 b1_739 b2_739 b3_739 b4_739 b5_739 b6_739 b1_789 (own_l [(0 : Int32), (-1 : Int32), (0 : Int32), (0 : Int32)]) (own_l [(0 : Int32), (-1 : Int32), (0 : Int32), (0 : Int32)]) (upD (upD (upD (fun _ => (0 : UInt64)) 0 FP.dconst0) 0 FP.dconst0) 1 FP.dconst0) (upI (upI (upI (fun _ => (0 : Int32)) 0 p3) 0 p3) 1 p3) (1 : Int32) (1 : Int32) (3 : Int64) 1 h789 n0 (Nat.le_trans (Nat.le_trans z780 Kq784.1) Kq789.1) f809 Fq6_789 Fq4_789 Fq0_789 Fq1_789 Fq7_789 Fq8_789 Fq9_789 Fq10_789 Fq11_789 Fq12_789 f810 f811 Fq2_789 Fq3_789 Fq5_789 (Ne.symm ne753) (Ne.symm ne754) (Ne.symm ne769) (Ne.symm ne771) nqb1_b2_739 nqb1_b5_739 nqb1_b6_739 nqb2_b5_739 nqb2_b6_739 nqb5_b6_739 g726 gqb1_739 gqb2_739 gqb5_739 gqb6_739 rfl (by decide)) (hb hby at_242) (by rw [hml]; rfl) rfl pd8 rfl rfl (by decide) (by decide) (by decide) (by decide) ?_
                  intro v808 T808 L808 X808 hQ808
                  obtain ⟨h808, e808⟩ : ∃ z, T808.heap = z := ⟨_, rfl⟩
                  rw [e808] at hQ808
                  obtain ⟨rfl, Nq808, Kq808, Fq0_808, Fq1_808, Fq2_808, Fq3_808, Fq4_808, Fq5_808, Fq6_808, Fq7_808, Fq8_808, Fq9_808, Fq10_808, Fq11_808, Fq12_808, Fq13_808, Fq14_808⟩ := hQ808
                  have N808 := Fr.app N789 Nq808
                  have Fq8_808 : Fld Z h808 b725 kES "bound" "I" (.int (2 : Int32)) := Fq8_808
                  have Fq9_808 : Fld Z h808 b725 kES "count" "I" (.int (2 : Int32)) := Fq9_808
                  have Fq10_808 : Fld Z h808 b725 kES "nextNumber" "J" (.long (4 : Int64)) := Fq10_808
                  refine Go.push (pc' := 245) rfl ?_
                  refine g_pop X808 hx hby at_245 (pc' := 246) rfl rfl ?_
                  have V812 : ArF Z h808 b1_739 .int 4 (fun i => .int ((own_l [(0 : Int32), (0 : Int32), (0 : Int32), (0 : Int32)]) i)) := Fq11_808.congr (fun i hi => congrArg Value.int ((by decide : ∀ i, i < 4 → (own_l [(0 : Int32), (0 : Int32), (0 : Int32), (0 : Int32)]) i = (upI (own_l [(0 : Int32), (-1 : Int32), (0 : Int32), (0 : Int32)]) 1 (0 : Int32)) i) i hi))
                  have V813 : ArF Z h808 b2_739 .int 4 (fun i => .int ((own_l [(0 : Int32), (0 : Int32), (0 : Int32), (0 : Int32)]) i)) := Fq12_808.congr (fun i hi => congrArg Value.int ((by decide : ∀ i, i < 4 → (own_l [(0 : Int32), (0 : Int32), (0 : Int32), (0 : Int32)]) i = (upI (own_l [(0 : Int32), (-1 : Int32), (0 : Int32), (0 : Int32)]) 1 (0 : Int32)) i) i hi))
                  have ne814 : b725 ≠ b1_789 := Nat.ne_of_lt (Nat.lt_of_lt_of_le f790.lt sqb1_789)
                  have ne815 : b1_739 ≠ b1_789 := Nat.ne_of_lt (Nat.lt_of_lt_of_le V786.lt sqb1_789)
                  have ne816 : b2_739 ≠ b1_789 := Nat.ne_of_lt (Nat.lt_of_lt_of_le V787.lt sqb1_789)
                  have ne817 : b611 ≠ b725 := Nat.ne_of_lt (by rw [hb725]; exact fj138_1.lt)
                  have ne818 : b611 ≠ b1_739 := Nat.ne_of_lt (Nat.lt_of_lt_of_le ((fj138_1.ext E725).keep Kq738 (ninS ne817 nin0)).lt sqb1_739)
                  have ne819 : b611 ≠ b2_739 := Nat.ne_of_lt (Nat.lt_of_lt_of_le ((fj138_1.ext E725).keep Kq738 (ninS ne817 nin0)).lt sqb2_739)
                  have f820 := f809.keep Kq808
                  have ne821 : b6_739 ≠ b1_789 := Nat.ne_of_lt (Nat.lt_of_lt_of_le (Fq14_778.keep Kq784 (ninS (Ne.symm ne771) (ninS (Ne.symm nqb1_b6_739) (ninS (Ne.symm nqb2_b6_739) nin0)))).lt sqb1_789)
                  have ne822 : b5_739 ≠ b1_789 := Nat.ne_of_lt (Nat.lt_of_lt_of_le (Fq13_778.keep Kq784 (ninS (Ne.symm ne769) (ninS (Ne.symm nqb1_b5_739) (ninS (Ne.symm nqb2_b5_739) nin0)))).lt sqb1_789)
                  have f823 := (Fq13_789.keep Kq808 (ninS (Ne.symm ne814) (ninS (Ne.symm ne815) (ninS (Ne.symm ne816) (ninS (Ne.symm ne822) (ninS (Ne.symm ne821) nin0))))))
                  have ne824 : b611 ≠ b6_739 := Nat.ne_of_lt (Nat.lt_of_lt_of_le ((fj138_1.ext E725).keep Kq738 (ninS ne817 nin0)).lt sqb6_739)
                  have ne825 : b611 ≠ b5_739 := Nat.ne_of_lt (Nat.lt_of_lt_of_le ((fj138_1.ext E725).keep Kq738 (ninS ne817 nin0)).lt sqb5_739)
                  have f826 := ((((((((((fj138_1.ext E725).keep Kq738 (ninS ne817 nin0)).keep Kq739 (ninS ne817 nin0)).keep Kq751 (ninS ne817 (ninS ne818 (ninS ne819 nin0)))).keep Kq760 (ninS ne817 (ninS ne818 (ninS ne819 nin0)))).keep Kq767 (ninS ne817 (ninS ne818 (ninS ne819 (ninS ne825 (ninS ne824 nin0)))))).keep Kq778 (ninS ne817 (ninS ne818 (ninS ne819 (ninS ne825 (ninS ne824 nin0)))))).keep Kq784 (ninS ne817 (ninS ne818 (ninS ne819 nin0)))).keep Kq789 (ninS ne817 (ninS ne818 (ninS ne819 nin0)))).keep Kq808 (ninS ne817 (ninS ne818 (ninS ne819 (ninS ne825 (ninS ne824 nin0))))))
                  exact J246a1 (T808, _, h808, (1 : Int32), (0 : Int32), (1 : Int32), b725, b1_739, b2_739, b1_789) ⟨X808.more (by decide) (by decide), e808, N808, (Nat.le_trans (Nat.le_trans (Nat.le_trans z780 Kq784.1) Kq789.1) Kq808.1), f820, Fq2_808, Fq3_808, Fq8_808, Fq9_808, Fq1_808, Fq10_808, V812, V813, f823, f826, (show b1_739 ≠ b725 ∧ b2_739 ≠ b725 ∧ b1_739 ≠ b2_739 ∧ b1_789 ≠ b725 ∧ b1_789 ≠ b1_739 ∧ b1_789 ≠ b2_739 ∧ b611 ≠ b725 ∧ b611 ≠ b1_739 ∧ b611 ≠ b2_739 ∧ n0 ≤ b725 ∧ n0 ≤ b1_739 ∧ n0 ≤ b2_739 ∧ av = (1 : Int32) from ⟨(Ne.symm ne753), (Ne.symm ne754), nqb1_b2_739, (Ne.symm ne814), (Ne.symm ne815), (Ne.symm ne816), ne817, ne818, ne819, g726, gqb1_739, gqb2_739, hA⟩)⟩
            intro J138
            refine g_iload X614 hx hby at_122 (pc' := 124) rfl rfl ?_
            by_cases hc124 : av.toInt = (0 : Int)
            · refine g_ifYes X614 hx hby at_124 (pc' := 138) (teq (show av = (0 : Int32) from Int32.toInt_inj.mp hc124)).1 (by decide) (by decide) ?_
              exact J138 (T614, _, h614, (1 : Int32), (own_lj [(1 : Int64), (0 : Int64), (0 : Int64), (0 : Int64)])) ⟨X614.more (by decide) (by decide), e614, (Fr.snoc X614 (Fr.snoc X610 N0 g608) g612), (Nat.le_trans (Nat.le_trans (Nat.le_trans (Nat.le_trans Z0 E607.1) (Nat.le_of_eq (Wr.size W610).symm)) E611.1) (Nat.le_of_eq (Wr.size W614).symm)), V618, V615, (show (av = (0 : Int32) ∧ (1 : Int32) = (1 : Int32) ∧ (own_lj [(1 : Int64), (0 : Int64), (0 : Int64), (0 : Int64)]) = (own_lj [(1 : Int64), (0 : Int64), (0 : Int64), (0 : Int64)])) ∨ (av = (1 : Int32) ∧ (1 : Int32) = (2 : Int32) ∧ (own_lj [(1 : Int64), (0 : Int64), (0 : Int64), (0 : Int64)]) = (own_lj [(1 : Int64), (3 : Int64), (0 : Int64), (0 : Int64)])) from Or.inl ⟨Int32.toInt_inj.mp hc124, rfl, rfl⟩)⟩
            · refine g_ifNo X614 hx hby at_124 (pc' := 127) (feq (show ¬ (av = (0 : Int32)) from fun q => hc124 (congrArg Int32.toInt q))).1 rfl ?_
              refine g_aload X614 hx hby at_127 (pc' := 129) rfl rfl rfl ?_
              refine g_iload X614 hx hby at_129 (pc' := 131) rfl rfl ?_
              refine g_ldcL X614 hx hby hZ hown (wi hw 96 rfl) at_131 (pc' := 134) rfl ?_
              refine Go.lastore X614 hx hZ e614 V615 (k := 1) rfl (by decide) (hb hby at_134) (pc' := 135) rfl ?_
              intro T827 h827 X827 e827 W827 V827
              have z828 : n0 ≤ h827.size := (Nat.le_trans (Nat.le_trans (Nat.le_trans (Nat.le_trans (Nat.le_trans Z0 E607.1) (Nat.le_of_eq (Wr.size W610).symm)) E611.1) (Nat.le_of_eq (Wr.size W614).symm)) (Nat.le_of_eq (Wr.size W827).symm))
              refine g_iinc X827 hx hby at_135 (pc' := 138) rfl rfl (L' := #[.val (.int p1), .val (.int p2), .val (.int p3), .val (.int kd), .val (.int (1 : Int32)), .val (.int (1 : Int32)), .val (.int av), .val (.int ra), .val (.ref b607), .val (.ref b611), .val (.int (2 : Int32)), .unset, .unset, .unset, .unset]) rfl ?_
              have V829 : ArF Z h827 b611 .long 4 (fun i => .long ((own_lj [(1 : Int64), (3 : Int64), (0 : Int64), (0 : Int64)]) i)) := V827.congr (fun i hi => congrArg Value.long ((by decide : ∀ i, i < 4 → (own_lj [(1 : Int64), (3 : Int64), (0 : Int64), (0 : Int64)]) i = (upJ (own_lj [(1 : Int64), (0 : Int64), (0 : Int64), (0 : Int64)]) 1 (3 : Int64)) i) i hi))
              have f830 := V618.other W827 ne616
              exact J138 (T827, _, h827, (2 : Int32), (own_lj [(1 : Int64), (3 : Int64), (0 : Int64), (0 : Int64)])) ⟨X827.more (by decide) (by decide), e827, (Fr.snoc X827 (Fr.snoc X614 (Fr.snoc X610 N0 g608) g612) g612), z828, f830, V829, (show (av = (0 : Int32) ∧ (2 : Int32) = (1 : Int32) ∧ (own_lj [(1 : Int64), (3 : Int64), (0 : Int64), (0 : Int64)]) = (own_lj [(1 : Int64), (0 : Int64), (0 : Int64), (0 : Int64)])) ∨ (av = (1 : Int32) ∧ (2 : Int32) = (2 : Int32) ∧ (own_lj [(1 : Int64), (3 : Int64), (0 : Int64), (0 : Int64)]) = (own_lj [(1 : Int64), (3 : Int64), (0 : Int64), (0 : Int64)])) from Or.inr ⟨hJ52.resolve_left (fun q => hc124 (congrArg Int32.toInt q)), rfl, rfl⟩)⟩
          intro J66
          refine g_iloadN X0 hx hby at_52 (pc' := 53) rfl rfl ?_
          refine g_bipush X0 hx hby at_53 (pc' := 55) rfl (z := (16 : Int32)) rfl ?_
          refine g_iand X0 hx hby at_55 (pc' := 56) rfl rfl ?_
          by_cases hc56 : (p1 &&& (16 : Int32)).toInt = (0 : Int)
          · refine g_ifYes X0 hx hby at_56 (pc' := 63) (teq (show (p1 &&& (16 : Int32)) = (0 : Int32) from Int32.toInt_inj.mp hc56)).1 (by decide) (by decide) ?_
            refine g_iconst X0 hx hby at_63 (pc' := 64) rfl (z := (0 : Int32)) rfl ?_
            refine g_istore X0 hx hby at_64 (pc' := 66) rfl (L' := #[.val (.int p1), .val (.int p2), .val (.int p3), .val (.int kd), .val (.int (1 : Int32)), .val (.int (1 : Int32)), .val (.int av), .val (.int (0 : Int32)), .unset, .unset, .unset, .unset, .unset, .unset, .unset]) rfl ?_
            exact J66 ((0 : Int32)) (Or.inl rfl)
          · refine g_ifNo X0 hx hby at_56 (pc' := 59) (feq (show ¬ ((p1 &&& (16 : Int32)) = (0 : Int32)) from fun q => hc56 (congrArg Int32.toInt q))).1 rfl ?_
            refine g_iconst X0 hx hby at_59 (pc' := 60) rfl (z := (1 : Int32)) rfl ?_
            refine g_goto X0 hx hby at_60 (pc' := 64) (by decide) (by decide) ?_
            refine g_istore X0 hx hby at_64 (pc' := 66) rfl (L' := #[.val (.int p1), .val (.int p2), .val (.int p3), .val (.int kd), .val (.int (1 : Int32)), .val (.int (1 : Int32)), .val (.int av), .val (.int (1 : Int32)), .unset, .unset, .unset, .unset, .unset, .unset, .unset]) rfl ?_
            exact J66 ((1 : Int32)) (Or.inr rfl)
        intro J52
        refine g_iloadN X0 hx hby at_38 (pc' := 39) rfl rfl ?_
        refine g_bipush X0 hx hby at_39 (pc' := 41) rfl (z := (8 : Int32)) rfl ?_
        refine g_iand X0 hx hby at_41 (pc' := 42) rfl rfl ?_
        by_cases hc42 : (p1 &&& (8 : Int32)).toInt = (0 : Int)
        · refine g_ifYes X0 hx hby at_42 (pc' := 49) (teq (show (p1 &&& (8 : Int32)) = (0 : Int32) from Int32.toInt_inj.mp hc42)).1 (by decide) (by decide) ?_
          refine g_iconst X0 hx hby at_49 (pc' := 50) rfl (z := (0 : Int32)) rfl ?_
          refine g_istore X0 hx hby at_50 (pc' := 52) rfl (L' := #[.val (.int p1), .val (.int p2), .val (.int p3), .val (.int kd), .val (.int (1 : Int32)), .val (.int (1 : Int32)), .val (.int (0 : Int32)), .unset, .unset, .unset, .unset, .unset, .unset, .unset, .unset]) rfl ?_
          exact J52 ((0 : Int32)) (Or.inl rfl)
        · refine g_ifNo X0 hx hby at_42 (pc' := 45) (feq (show ¬ ((p1 &&& (8 : Int32)) = (0 : Int32)) from fun q => hc42 (congrArg Int32.toInt q))).1 rfl ?_
          refine g_iconst X0 hx hby at_45 (pc' := 46) rfl (z := (1 : Int32)) rfl ?_
          refine g_goto X0 hx hby at_46 (pc' := 50) (by decide) (by decide) ?_
          refine g_istore X0 hx hby at_50 (pc' := 52) rfl (L' := #[.val (.int p1), .val (.int p2), .val (.int p3), .val (.int kd), .val (.int (1 : Int32)), .val (.int (1 : Int32)), .val (.int (1 : Int32)), .unset, .unset, .unset, .unset, .unset, .unset, .unset, .unset]) rfl ?_
          exact J52 ((1 : Int32)) (Or.inr rfl)
  intro J12
  refine g_iloadN X0 hx hby at_0 (pc' := 1) rfl rfl ?_
  refine g_iconst X0 hx hby at_1 (pc' := 2) rfl (z := (1 : Int32)) rfl ?_
  refine g_iand X0 hx hby at_2 (pc' := 3) rfl rfl ?_
  by_cases hc3 : (p1 &&& (1 : Int32)).toInt = (0 : Int)
  · refine g_ifYes X0 hx hby at_3 (pc' := 10) (teq (show (p1 &&& (1 : Int32)) = (0 : Int32) from Int32.toInt_inj.mp hc3)).1 (by decide) (by decide) ?_
    refine g_iconst X0 hx hby at_10 (pc' := 11) rfl (z := (0 : Int32)) rfl ?_
    refine g_istoreN X0 hx hby at_11 (pc' := 12) rfl (L' := #[.val (.int p1), .val (.int p2), .val (.int p3), .val (.int (0 : Int32)), .unset, .unset, .unset, .unset, .unset, .unset, .unset, .unset, .unset, .unset, .unset]) rfl ?_
    exact J12 ((0 : Int32)) (Or.inl rfl)
  · refine g_ifNo X0 hx hby at_3 (pc' := 6) (feq (show ¬ ((p1 &&& (1 : Int32)) = (0 : Int32)) from fun q => hc3 (congrArg Int32.toInt q))).1 rfl ?_
    refine g_iconst X0 hx hby at_6 (pc' := 7) rfl (z := (1 : Int32)) rfl ?_
    refine g_goto X0 hx hby at_7 (pc' := 11) (by decide) (by decide) ?_
    refine g_istoreN X0 hx hby at_11 (pc' := 12) rfl (L' := #[.val (.int p1), .val (.int p2), .val (.int p3), .val (.int (1 : Int32)), .unset, .unset, .unset, .unset, .unset, .unset, .unset, .unset, .unset, .unset, .unset]) rfl ?_
    exact J12 ((1 : Int32)) (Or.inr rfl)
set_option maxRecDepth 65536 in
set_option maxHeartbeats 40000000 in
theorem comes_1 {Post : Tables → Env → Array Value → State → Outcome → State → Prop} (hpost : ∀ tb e args s v u, (limb_1_1.after args s (.returned v) u = true ∧ limb_1_2.after args s (.returned v) u = true) → FrameEnd s (.returned v) u (Jvm.fieldLocs frame_1_writes args s ++ Jvm.arrayLocs frame_1_arrays args s ++ Jvm.staticLocs frame_1_statics s) 48 192 → Post tb e args s (.returned v) u) :
    ArmFor flags0 classFile x code maxLocals ret World_1 tables_1 room_1 Calls_1 rest_1 Pre_1 Post := by
  intro l hfl _ _ p e ha hc hk s m args below hf hA hF happ hP
  obtain ⟨hcalls, hrest, hpre⟩ := hP
  obtain ⟨-, -, -, hnamed, -, -, -, hat⟩ := (Spec.applies_iff hf).mp happ
  obtain ⟨hg, hn⟩ := and_e (Cond.before_iff.mp (show (Jvm.Cond.and given_1 narrow_1).before args s = true from hpre))
  obtain ⟨g0, r0⟩ := and_e hg
  obtain ⟨g1, r1⟩ := and_e r0
  obtain ⟨g2, g3⟩ := and_e r1
  obtain ⟨w0, w1, w2, rfl⟩ : ∃ w0 w1 w2 : Value, args = #[w0, w1, w2] := by
    have hs : args.size = 3 := by simpa [Cond.value, given_1] using g0
    obtain ⟨L⟩ := args
    match L, hs with
    | [w0, w1, w2], _ => exact ⟨w0, w1, w2, rfl⟩
  have hw := fun d (hd : d ∈ tables_1) => atoms_spec (ws := Jvm.Cond.code x code maxLocals ret :: tables_1) hat d (List.mem_cons_of_mem _ hd)
  have hfit : Fit s := fun {y c} hc i hi => by
    obtain ⟨ha, rfl⟩ := Array.getElem?_eq_some_iff.mp hc
    have q := List.all_eq_true.mp ((Array.all_eq_true_iff_forall_mem.mp hF) _ (Array.getElem_mem ha)) i (List.mem_range.mpr hi)
    simpa [Array.getElem?_eq_getElem hi] using q
  obtain ⟨i0, ei0⟩ := is_v g1
  obtain rfl : w0 = (.int i0) := Option.some.inj ei0
  obtain ⟨i1, ei1⟩ := is_v g2
  obtain rfl : w1 = (.int i1) := Option.some.inj ei1
  obtain ⟨i2, ei2⟩ := is_v g3
  obtain rfl : w2 = (.int i2) := Option.some.inj ei2
  obtain ⟨n, o, h1, h2, h3, _, L, rfl, ⟨rfl, N⟩, hq⟩ := rm0 l s _ hw tables_1 i0 i1 i2 s.heap s.heap.size (Nat.le_refl _)  p e ha hc hk s m _ below hf ((Spec.applies_iff_loose hf).mp happ).1 ⟨rfl, State.Warmed39.refl s, rfl⟩ trivial
  refine ⟨n, _, h1, h2, h3, hpost _ _ _ _ _ _ ⟨Cond.after_iff.mpr rfl, Cond.after_iff.mpr (eq_i res_at (Term.int_eval (1)) rfl)⟩ ⟨hq.1, hq.2.1, (hq.2.2.sift fun y hy => Or.inr (N y hy)).mono (by decide) (by decide)⟩⟩
theorem main_1_1 : Claimed_1_1 := comes_1 fun _ _ _ _ _ _ h hF => ⟨h.1, hF⟩
theorem main_1_2 : Claimed_1_2 := comes_1 fun _ _ _ _ _ _ h hF => ⟨h.2, hF⟩
end Jvm.Pilot.@@N@@
namespace Jvm.Pilot.@@N@@
open Jvm Jvm.ClassFile Sem Op Lib Jvm.Free Jvm.Stand Jvm.Pilot.@@N@@.Jvm.D
/-! MADE BY PROGRAM (witnessworld.py) out of the Statement's table words and the real class files: 17 classes; the members and pool entries that the words name. The judged class is class 1, her method 1. -/
namespace start1
open Jvm.ClassFile
def u (s : String) : CpInfo := .utf8 (stringToUtf16 s)
/-- a pool by its gaps: so many unusable entries, then the entry; so many at the end -/
def gap : Nat → List CpInfo → List CpInfo
  | 0, r => r
  | n + 1, r => .unusable :: gap n r
def poolList (es : List (Nat × CpInfo)) (last : Nat) : List CpInfo := es.foldr (fun e r => gap e.1 (e.2 :: r)) (gap last [])
def pool (es : List (Nat × CpInfo)) (last : Nat) : Array CpInfo := ⟨poolList es last⟩
def fileOf (pool : Array CpInfo) (this : Nat) (attrs : Array Attribute := #[]) (ms : Array MethodInfo := #[]) (fl : Nat := 33) (sup : Nat := 0) (ifs : Array Nat := #[]) (fds : Array FieldInfo := #[]) : ClassFile where
  minorVersion := 0
  majorVersion := 65
  constantPool := pool
  accessFlags := fl
  thisClass := this
  superClass := sup
  interfaces := ifs
  fields := fds
  methods := ms
  attributes := attrs
def plain (name : String) (sup : Option ClassId) : Class where
  name := name
  kind := .ordinary
  loader := none
  accessFlags := 33
  super := sup
  interfaces := #[]
  cf := none
  fields := #[]
  methods := #[]
  instanceTypes := #[]
  staticTypes := #[]
  resolved := #[]
  callSites := []
  init := .initialized
  statics := none
  mirror := none

def pool0 : Array CpInfo := pool [(5, u "<init>"), (0, u "()V"), (1, .class_ 10), (1, u "java/lang/Object")] 113

def k0c0 : Code := { maxStack := 0, maxLocals := 1, code := object_method_1_code, exceptionTable := #[], attributes := #[] }
def k0m0 : Method := { name := "<init>", desc := "()V", sig := { parameters := [], returnType := none }, accessFlags := 1, code := some k0c0 }
/-- java/lang/Object -/
def k0 : Class := { plain "java/lang/Object" none with
  accessFlags := 33
  interfaces := #[]
  cf := some (fileOf pool0 8 #[] #[{ accessFlags := 1, nameIndex := 5, descriptorIndex := 6, attributes := #[] }] 33 0 #[] #[])
  fields := #[]
  methods := #[k0m0]
  instanceTypes := #[]
  staticTypes := #[]
  resolved := Array.replicate 124 none
  statics := none }

def pool1 : Array CpInfo := pool [(2, .class_ 4), (1, u "java/lang/Object"), (0, u "<init>"), (0, u "()V"), (0, .long 2), (1, .long 3), (1, .integer 2147483647), (0, .class_ 13), (0, u "com/example/edgewise/edgewise/EdgeSlots"), (0, .methodref 12 15), (0, .nameAndType 5 16), (0, u "(Z)V"), (0, .methodref 12 18), (0, .nameAndType 19 20), (0, u "add"), (0, u "(IIDI)I"), (0, .methodref 12 22), (0, .nameAndType 23 24), (0, u "remove"), (0, u "(I)V"), (0, .methodref 12 26), (0, .nameAndType 27 28), (0, u "compact"), (0, u "([ILcom/example/edgewise/edgewise/Adjacency;Lcom/example/edgewise/edgewise/Adjacency;)V"), (0, .methodref 12 30), (0, .nameAndType 31 32), (0, u "numberAt"), (0, u "(I)J"), (0, .class_ 34), (0, u "com/example/edgewise/edgewise/EdgeSlotsNumberAtPinLaw"), (2, u "law"), (0, u "(III)Z")] 7

def k1m0 : Method := { name := "<init>", desc := "()V", sig := { parameters := [], returnType := none }, accessFlags := 1, code := none }
def k1c1 : Code := { maxStack := 6, maxLocals := 15, code := code, exceptionTable := #[], attributes := #[] }
def k1m1 : Method := { name := "law", desc := "(III)Z", sig := { parameters := [.int, .int, .int], returnType := some .boolean }, accessFlags := 9, code := some k1c1 }
/-- com/example/edgewise/edgewise/EdgeSlotsNumberAtPinLaw -/
def k1 : Class := { plain "com/example/edgewise/edgewise/EdgeSlotsNumberAtPinLaw" (some 0) with
  accessFlags := 49
  interfaces := #[]
  cf := some (fileOf pool1 33 #[] #[{ accessFlags := 1, nameIndex := 5, descriptorIndex := 6, attributes := #[] }, { accessFlags := 9, nameIndex := 37, descriptorIndex := 38, attributes := #[] }] 49 2 #[] #[])
  fields := #[]
  methods := #[k1m0, k1m1]
  instanceTypes := #[]
  staticTypes := #[]
  resolved := Array.replicate 46 none
  statics := none }

def pool2 : Array CpInfo := pool [(1, .methodref 2 3), (0, .class_ 4), (0, .nameAndType 5 6), (0, u "java/lang/Object"), (0, u "<init>"), (0, u "()V"), (0, .fieldref 8 9), (0, .class_ 10), (0, .nameAndType 11 12), (0, u "com/example/edgewise/edgewise/EdgeSlots"), (0, u "sources"), (0, u "[I"), (0, .fieldref 8 14), (0, .nameAndType 15 12), (0, u "targets"), (0, .fieldref 8 17), (0, .nameAndType 18 12), (0, u "sourcePositions"), (0, .fieldref 8 20), (0, .nameAndType 21 12), (0, u "targetPositions"), (0, .fieldref 8 23), (0, .nameAndType 24 25), (0, u "weights"), (0, u "[D"), (0, .fieldref 8 27), (0, .nameAndType 28 12), (0, u "keys"), (0, .fieldref 8 30), (0, .nameAndType 31 32), (0, u "keptNumbers"), (0, u "[J"), (0, .fieldref 8 34), (0, .nameAndType 35 36), (0, u "keyed"), (0, u "Z"), (0, .fieldref 8 38), (0, .nameAndType 39 40), (0, u "bound"), (0, u "I"), (0, .methodref 42 43), (0, .class_ 44), (0, .nameAndType 45 46), (0, u "com/example/edgewise/edgewise/Capacity"), (0, u "next"), (0, u "(I)I"), (0, .methodref 8 48), (0, .nameAndType 49 50), (0, u "resize"), (0, u "(I)V"), (0, .fieldref 8 52), (0, .nameAndType 53 40), (0, u "count"), (0, .fieldref 8 55), (0, .nameAndType 56 57), (0, u "nextNumber"), (0, u "J"), (1, .class_ 61), (1, u "java/util/Arrays"), (2, .methodref 65 66), (0, .class_ 67), (0, .nameAndType 68 69), (0, u "java/lang/Math"), (0, u "max"), (0, u "(II)I"), (0, .methodref 8 71), (0, .nameAndType 72 73), (0, u "numberAt"), (0, u "(I)J"), (10, .methodref 42 85), (0, .nameAndType 86 69), (0, u "trimmed"), (0, .methodref 59 88), (0, .nameAndType 89 90), (0, u "copyOf"), (0, u "([II)[I"), (0, .methodref 59 92), (0, .nameAndType 89 93), (0, u "([DI)[D"), (0, u "REMOVED"), (2, u "NO_ENTRY"), (0, u "(Z)V"), (2, u "add"), (0, u "(IIDI)I"), (1, u "remove"), (18, u "compact"), (0, u "([ILcom/example/edgewise/edgewise/Adjacency;Lcom/example/edgewise/edgewise/Adjacency;)V")] 3

def k2c0 : Code := { maxStack := 2, maxLocals := 2, code := prog_12_method_1_code, exceptionTable := #[], attributes := #[] }
def k2m0 : Method := { name := "<init>", desc := "(Z)V", sig := { parameters := [.boolean], returnType := none }, accessFlags := 0, code := some k2c0 }
def k2c1 : Code := { maxStack := 5, maxLocals := 7, code := prog_12_method_2_code, exceptionTable := #[], attributes := #[] }
def k2m1 : Method := { name := "add", desc := "(IIDI)I", sig := { parameters := [.int, .int, .double, .int], returnType := some .int }, accessFlags := 0, code := some k2c1 }
def k2c2 : Code := { maxStack := 3, maxLocals := 2, code := prog_12_method_3_code, exceptionTable := #[], attributes := #[] }
def k2m2 : Method := { name := "remove", desc := "(I)V", sig := { parameters := [.int], returnType := none }, accessFlags := 0, code := some k2c2 }
def k2c3 : Code := { maxStack := 4, maxLocals := 2, code := prog_12_method_18_code, exceptionTable := #[], attributes := #[] }
def k2m3 : Method := { name := "numberAt", desc := "(I)J", sig := { parameters := [.int], returnType := some .long }, accessFlags := 0, code := some k2c3 }
def k2c4 : Code := { maxStack := 4, maxLocals := 10, code := prog_12_method_20_code, exceptionTable := #[], attributes := #[] }
def k2m4 : Method := { name := "compact", desc := "([ILcom/example/edgewise/edgewise/Adjacency;Lcom/example/edgewise/edgewise/Adjacency;)V", sig := { parameters := [(.array .int), (.object "com/example/edgewise/edgewise/Adjacency"), (.object "com/example/edgewise/edgewise/Adjacency")], returnType := none }, accessFlags := 0, code := some k2c4 }
def k2c5 : Code := { maxStack := 3, maxLocals := 2, code := prog_12_method_22_code, exceptionTable := #[], attributes := #[] }
def k2m5 : Method := { name := "resize", desc := "(I)V", sig := { parameters := [.int], returnType := none }, accessFlags := 2, code := some k2c5 }
/-- com/example/edgewise/edgewise/EdgeSlots -/
def k2 : Class := { plain "com/example/edgewise/edgewise/EdgeSlots" (some 0) with
  accessFlags := 48
  interfaces := #[]
  cf := some (fileOf pool2 8 #[] #[{ accessFlags := 0, nameIndex := 5, descriptorIndex := 98, attributes := #[] }, { accessFlags := 0, nameIndex := 101, descriptorIndex := 102, attributes := #[] }, { accessFlags := 0, nameIndex := 104, descriptorIndex := 50, attributes := #[] }, { accessFlags := 0, nameIndex := 72, descriptorIndex := 73, attributes := #[] }, { accessFlags := 0, nameIndex := 123, descriptorIndex := 124, attributes := #[] }, { accessFlags := 2, nameIndex := 49, descriptorIndex := 50, attributes := #[] }] 48 2 #[] #[{ accessFlags := 24, nameIndex := 94, descriptorIndex := 40, attributes := #[] }, { accessFlags := 24, nameIndex := 97, descriptorIndex := 40, attributes := #[] }, { accessFlags := 18, nameIndex := 35, descriptorIndex := 36, attributes := #[] }, { accessFlags := 2, nameIndex := 11, descriptorIndex := 12, attributes := #[] }, { accessFlags := 2, nameIndex := 15, descriptorIndex := 12, attributes := #[] }, { accessFlags := 2, nameIndex := 18, descriptorIndex := 12, attributes := #[] }, { accessFlags := 2, nameIndex := 21, descriptorIndex := 12, attributes := #[] }, { accessFlags := 2, nameIndex := 24, descriptorIndex := 25, attributes := #[] }, { accessFlags := 2, nameIndex := 28, descriptorIndex := 12, attributes := #[] }, { accessFlags := 2, nameIndex := 39, descriptorIndex := 40, attributes := #[] }, { accessFlags := 2, nameIndex := 53, descriptorIndex := 40, attributes := #[] }, { accessFlags := 2, nameIndex := 56, descriptorIndex := 57, attributes := #[] }, { accessFlags := 2, nameIndex := 31, descriptorIndex := 32, attributes := #[] }])
  fields := #[{ name := "REMOVED", type := .int, accessFlags := 24, slot := 0, constantValue := 0 }, { name := "NO_ENTRY", type := .int, accessFlags := 24, slot := 1, constantValue := 0 }, { name := "keyed", type := .boolean, accessFlags := 18, slot := 0, constantValue := 0 }, { name := "sources", type := (.array .int), accessFlags := 2, slot := 1, constantValue := 0 }, { name := "targets", type := (.array .int), accessFlags := 2, slot := 2, constantValue := 0 }, { name := "sourcePositions", type := (.array .int), accessFlags := 2, slot := 3, constantValue := 0 }, { name := "targetPositions", type := (.array .int), accessFlags := 2, slot := 4, constantValue := 0 }, { name := "weights", type := (.array .double), accessFlags := 2, slot := 5, constantValue := 0 }, { name := "keys", type := (.array .int), accessFlags := 2, slot := 6, constantValue := 0 }, { name := "bound", type := .int, accessFlags := 2, slot := 7, constantValue := 0 }, { name := "count", type := .int, accessFlags := 2, slot := 8, constantValue := 0 }, { name := "nextNumber", type := .long, accessFlags := 2, slot := 9, constantValue := 0 }, { name := "keptNumbers", type := (.array .long), accessFlags := 2, slot := 10, constantValue := 0 }]
  methods := #[k2m0, k2m1, k2m2, k2m3, k2m4, k2m5]
  instanceTypes := #[.boolean, (.array .int), (.array .int), (.array .int), (.array .int), (.array .double), (.array .int), .int, .int, .long, (.array .long)]
  staticTypes := #[.int, .int]
  resolved := Array.replicate 128 none
  statics := none }

def pool3 : Array CpInfo := pool [(4, .class_ 6), (1, u "java/lang/Object"), (0, u "<init>"), (0, u "()V"), (0, .class_ 10), (0, u "com/example/edgewise/edgewise/Capacity"), (0, .integer 2147483639), (7, .long 2147483639), (1, .long 4), (1, .long 2), (1, .methodref 26 27), (0, .class_ 28), (0, .nameAndType 29 30), (0, u "java/lang/Math"), (0, u "max"), (0, u "(JJ)J"), (0, .methodref 26 32), (0, .nameAndType 33 30), (0, u "min"), (0, u "MAX"), (0, u "I"), (1, u "MIN"), (3, u "next"), (0, u "(I)I"), (1, u "trimmed"), (0, u "(II)I")] 2

def k3m0 : Method := { name := "<init>", desc := "()V", sig := { parameters := [], returnType := none }, accessFlags := 2, code := none }
def k3c1 : Code := { maxStack := 8, maxLocals := 1, code := prog_6_method_2_code, exceptionTable := #[], attributes := #[] }
def k3m1 : Method := { name := "next", desc := "(I)I", sig := { parameters := [.int], returnType := some .int }, accessFlags := 8, code := some k3c1 }
def k3c2 : Code := { maxStack := 3, maxLocals := 2, code := prog_6_method_3_code, exceptionTable := #[], attributes := #[] }
def k3m2 : Method := { name := "trimmed", desc := "(II)I", sig := { parameters := [.int, .int], returnType := some .int }, accessFlags := 8, code := some k3c2 }
/-- com/example/edgewise/edgewise/Capacity -/
def k3 : Class := { plain "com/example/edgewise/edgewise/Capacity" (some 0) with
  accessFlags := 48
  interfaces := #[]
  cf := some (fileOf pool3 9 #[] #[{ accessFlags := 2, nameIndex := 7, descriptorIndex := 8, attributes := #[] }, { accessFlags := 8, nameIndex := 41, descriptorIndex := 42, attributes := #[] }, { accessFlags := 8, nameIndex := 44, descriptorIndex := 45, attributes := #[] }] 48 4 #[] #[{ accessFlags := 24, nameIndex := 34, descriptorIndex := 35, attributes := #[] }, { accessFlags := 26, nameIndex := 37, descriptorIndex := 35, attributes := #[] }])
  fields := #[{ name := "MAX", type := .int, accessFlags := 24, slot := 0, constantValue := 0 }, { name := "MIN", type := .int, accessFlags := 26, slot := 1, constantValue := 0 }]
  methods := #[k3m0, k3m1, k3m2]
  instanceTypes := #[]
  staticTypes := #[.int, .int]
  resolved := Array.replicate 48 none
  statics := none }

def pool4 : Array CpInfo := pool [(1, .class_ 2), (0, u "java/lang/Math"), (1, .class_ 6), (1, u "java/lang/Object"), (0, u "<init>"), (0, u "()V"), (89, .class_ 100), (1, u "java/lang/Math$RandomNumberGeneratorHolder"), (20, u "(JJ)J"), (50, u "negativeZeroFloatBits"), (0, u "J"), (2, u "negativeZeroDoubleBits"), (21, u "max"), (2, u "min"), (43, u "$assertionsDisabled"), (0, u "Z"), (88, u "(II)I"), (2, u "twoToTheDoubleScaleDown"), (0, u "D"), (4, u "twoToTheDoubleScaleUp"), (9, u "E"), (3, u "PI"), (2, u "TAU"), (2, u "DEGREES_TO_RADIANS"), (0, u "RADIANS_TO_DEGREES")] 94

def k4m0 : Method := { name := "<init>", desc := "()V", sig := { parameters := [], returnType := none }, accessFlags := 2, code := none }
def k4c1 : Code := { maxStack := 2, maxLocals := 2, code := jdk_29_method_65_code, exceptionTable := #[], attributes := #[] }
def k4m1 : Method := { name := "max", desc := "(II)I", sig := { parameters := [.int, .int], returnType := some .int }, accessFlags := 9, code := some k4c1 }
def k4c2 : Code := { maxStack := 4, maxLocals := 4, code := jdk_29_method_66_code, exceptionTable := #[], attributes := #[] }
def k4m2 : Method := { name := "max", desc := "(JJ)J", sig := { parameters := [.long, .long], returnType := some .long }, accessFlags := 9, code := some k4c2 }
def k4c3 : Code := { maxStack := 2, maxLocals := 2, code := jdk_29_method_69_code, exceptionTable := #[], attributes := #[] }
def k4m3 : Method := { name := "min", desc := "(II)I", sig := { parameters := [.int, .int], returnType := some .int }, accessFlags := 9, code := some k4c3 }
def k4c4 : Code := { maxStack := 4, maxLocals := 4, code := jdk_29_method_70_code, exceptionTable := #[], attributes := #[] }
def k4m4 : Method := { name := "min", desc := "(JJ)J", sig := { parameters := [.long, .long], returnType := some .long }, accessFlags := 9, code := some k4c4 }
/-- java/lang/Math -/
def k4 : Class := { plain "java/lang/Math" (some 0) with
  accessFlags := 49
  interfaces := #[]
  cf := some (fileOf pool4 1 #[.nestMembers #[98]] #[{ accessFlags := 2, nameIndex := 7, descriptorIndex := 8, attributes := #[] }, { accessFlags := 9, nameIndex := 198, descriptorIndex := 335, attributes := #[] }, { accessFlags := 9, nameIndex := 198, descriptorIndex := 121, attributes := #[] }, { accessFlags := 9, nameIndex := 201, descriptorIndex := 335, attributes := #[] }, { accessFlags := 9, nameIndex := 201, descriptorIndex := 121, attributes := #[] }] 49 4 #[] #[{ accessFlags := 25, nameIndex := 354, descriptorIndex := 339, attributes := #[] }, { accessFlags := 25, nameIndex := 358, descriptorIndex := 339, attributes := #[] }, { accessFlags := 25, nameIndex := 361, descriptorIndex := 339, attributes := #[] }, { accessFlags := 26, nameIndex := 364, descriptorIndex := 339, attributes := #[] }, { accessFlags := 26, nameIndex := 365, descriptorIndex := 339, attributes := #[] }, { accessFlags := 26, nameIndex := 172, descriptorIndex := 173, attributes := #[] }, { accessFlags := 26, nameIndex := 176, descriptorIndex := 173, attributes := #[] }, { accessFlags := 8, nameIndex := 344, descriptorIndex := 339, attributes := #[] }, { accessFlags := 8, nameIndex := 338, descriptorIndex := 339, attributes := #[] }, { accessFlags := 4120, nameIndex := 245, descriptorIndex := 246, attributes := #[] }])
  fields := #[{ name := "E", type := .double, accessFlags := 25, slot := 0, constantValue := 0 }, { name := "PI", type := .double, accessFlags := 25, slot := 1, constantValue := 0 }, { name := "TAU", type := .double, accessFlags := 25, slot := 2, constantValue := 0 }, { name := "DEGREES_TO_RADIANS", type := .double, accessFlags := 26, slot := 3, constantValue := 0 }, { name := "RADIANS_TO_DEGREES", type := .double, accessFlags := 26, slot := 4, constantValue := 0 }, { name := "negativeZeroFloatBits", type := .long, accessFlags := 26, slot := 5, constantValue := 0 }, { name := "negativeZeroDoubleBits", type := .long, accessFlags := 26, slot := 6, constantValue := 0 }, { name := "twoToTheDoubleScaleUp", type := .double, accessFlags := 8, slot := 7, constantValue := 0 }, { name := "twoToTheDoubleScaleDown", type := .double, accessFlags := 8, slot := 8, constantValue := 0 }, { name := "$assertionsDisabled", type := .boolean, accessFlags := 4120, slot := 9, constantValue := 0 }]
  methods := #[k4m0, k4m1, k4m2, k4m3, k4m4]
  instanceTypes := #[]
  staticTypes := #[.double, .double, .double, .double, .double, .long, .long, .double, .double, .boolean]
  resolved := Array.replicate 460 none
  statics := none }

def pool5 : Array CpInfo := pool [(2, .class_ 4), (1, u "java/lang/Object"), (0, u "<init>"), (0, u "()V"), (7, .class_ 16), (1, u "java/util/Arrays"), (57, .class_ 76), (1, u "java/util/Arrays$NaturalOrder"), (36, .class_ 115), (1, u "java/util/Arrays$LegacyMergeSort"), (1, u "Z"), (32, .methodref 151 152), (0, .class_ 153), (0, .nameAndType 154 155), (0, u "java/lang/System"), (0, u "arraycopy"), (0, u "(Ljava/lang/Object;ILjava/lang/Object;II)V"), (146, u "copyOf"), (1, .methodref 305 306), (0, .class_ 307), (0, .nameAndType 308 309), (0, u "java/lang/Math"), (0, u "min"), (0, u "(II)I"), (65, .class_ 376), (0, u "java/util/Arrays$ArrayList"), (68, u "$assertionsDisabled"), (269, u "MIN_ARRAY_SORT_GRAN"), (0, u "I"), (2, u "INSERTIONSORT_THRESHOLD"), (151, u "([II)[I"), (3, u "([DI)[D"), (99, .class_ 976), (0, u "java/util/Arrays$ArrayItr")] 52

def k5m0 : Method := { name := "<init>", desc := "()V", sig := { parameters := [], returnType := none }, accessFlags := 2, code := none }
def k5c1 : Code := { maxStack := 6, maxLocals := 3, code := jdk_65_method_123_code, exceptionTable := #[], attributes := #[] }
def k5m1 : Method := { name := "copyOf", desc := "([II)[I", sig := { parameters := [(.array .int), .int], returnType := some (.array .int) }, accessFlags := 9, code := some k5c1 }
def k5c2 : Code := { maxStack := 6, maxLocals := 3, code := jdk_65_method_127_code, exceptionTable := #[], attributes := #[] }
def k5m2 : Method := { name := "copyOf", desc := "([DI)[D", sig := { parameters := [(.array .double), .int], returnType := some (.array .double) }, accessFlags := 9, code := some k5c2 }
/-- java/util/Arrays -/
def k5 : Class := { plain "java/util/Arrays" (some 0) with
  accessFlags := 49
  interfaces := #[]
  cf := some (fileOf pool5 14 #[.nestMembers #[975, 375, 113, 74]] #[{ accessFlags := 2, nameIndex := 5, descriptorIndex := 6, attributes := #[] }, { accessFlags := 9, nameIndex := 302, descriptorIndex := 871, attributes := #[] }, { accessFlags := 9, nameIndex := 302, descriptorIndex := 875, attributes := #[] }] 49 2 #[] #[{ accessFlags := 26, nameIndex := 715, descriptorIndex := 716, attributes := #[] }, { accessFlags := 26, nameIndex := 719, descriptorIndex := 716, attributes := #[] }, { accessFlags := 4120, nameIndex := 445, descriptorIndex := 117, attributes := #[] }])
  fields := #[{ name := "MIN_ARRAY_SORT_GRAN", type := .int, accessFlags := 26, slot := 0, constantValue := 0 }, { name := "INSERTIONSORT_THRESHOLD", type := .int, accessFlags := 26, slot := 1, constantValue := 0 }, { name := "$assertionsDisabled", type := .boolean, accessFlags := 4120, slot := 2, constantValue := 0 }]
  methods := #[k5m0, k5m1, k5m2]
  instanceTypes := #[]
  staticTypes := #[.int, .int, .boolean]
  resolved := Array.replicate 1029 none
  statics := none }

def pool6 : Array CpInfo := pool [(2, .class_ 4), (1, u "java/lang/Object"), (0, u "<init>"), (0, u "()V"), (1, .class_ 10), (1, u "java/lang/System"), (0, u "allowSecurityManager"), (0, u "I"), (16, u "cons"), (0, u "Ljava/io/Console;"), (77, .class_ 110), (1, u "java/lang/System$CallersHolder"), (43, u "initialErrStream"), (0, u "Ljava/io/PrintStream;"), (19, u "security"), (0, u "Ljava/lang/SecurityManager;"), (31, .class_ 209), (0, u "java/lang/System$1"), (7, u "props"), (0, u "Ljava/util/Properties;"), (2, u "lineSeparator"), (0, u "Ljava/lang/String;"), (96, .class_ 321), (1, u "java/lang/System$LoggerFinder"), (5, .class_ 328), (0, u "java/lang/System$Logger"), (67, u "err"), (2, u "out"), (91, u "notSupportedJnuEncoding"), (15, u "in"), (17, u "initialIn"), (0, u "Ljava/io/InputStream;"), (35, u "bootLayer"), (0, u "Ljava/lang/ModuleLayer;"), (99, .class_ 664), (0, u "java/lang/System$2"), (9, u "NEVER"), (2, u "MAYBE"), (49, u "arraycopy"), (0, u "(Ljava/lang/Object;ILjava/lang/Object;II)V"), (72, .class_ 802), (0, u "java/lang/System$Logger$Level")] 31

def k6m0 : Method := { name := "<init>", desc := "()V", sig := { parameters := [], returnType := none }, accessFlags := 2, code := none }
def k6m1 : Method := { name := "arraycopy", desc := "(Ljava/lang/Object;ILjava/lang/Object;II)V", sig := { parameters := [(.object "java/lang/Object"), .int, (.object "java/lang/Object"), .int, .int], returnType := none }, accessFlags := 265, code := none }
/-- java/lang/System -/
def k6 : Class := { plain "java/lang/System" (some 0) with
  accessFlags := 49
  interfaces := #[]
  cf := some (fileOf pool6 8 #[.nestMembers #[319, 327, 801, 108, 663, 208]] #[{ accessFlags := 2, nameIndex := 5, descriptorIndex := 6, attributes := #[] }, { accessFlags := 265, nameIndex := 727, descriptorIndex := 728, attributes := #[] }] 49 2 #[] #[{ accessFlags := 25, nameIndex := 507, descriptorIndex := 526, attributes := #[] }, { accessFlags := 25, nameIndex := 399, descriptorIndex := 155, attributes := #[] }, { accessFlags := 25, nameIndex := 396, descriptorIndex := 155, attributes := #[] }, { accessFlags := 10, nameIndex := 525, descriptorIndex := 526, attributes := #[] }, { accessFlags := 26, nameIndex := 674, descriptorIndex := 12, attributes := #[] }, { accessFlags := 26, nameIndex := 677, descriptorIndex := 12, attributes := #[] }, { accessFlags := 10, nameIndex := 11, descriptorIndex := 12, attributes := #[] }, { accessFlags := 74, nameIndex := 175, descriptorIndex := 176, attributes := #[] }, { accessFlags := 10, nameIndex := 491, descriptorIndex := 222, attributes := #[] }, { accessFlags := 74, nameIndex := 29, descriptorIndex := 30, attributes := #[] }, { accessFlags := 74, nameIndex := 154, descriptorIndex := 155, attributes := #[] }, { accessFlags := 10, nameIndex := 217, descriptorIndex := 218, attributes := #[] }, { accessFlags := 10, nameIndex := 221, descriptorIndex := 222, attributes := #[] }, { accessFlags := 8, nameIndex := 562, descriptorIndex := 563, attributes := #[] }])
  fields := #[{ name := "in", type := (.object "java/io/InputStream"), accessFlags := 25, slot := 0, constantValue := 0 }, { name := "out", type := (.object "java/io/PrintStream"), accessFlags := 25, slot := 1, constantValue := 0 }, { name := "err", type := (.object "java/io/PrintStream"), accessFlags := 25, slot := 2, constantValue := 0 }, { name := "initialIn", type := (.object "java/io/InputStream"), accessFlags := 10, slot := 3, constantValue := 0 }, { name := "NEVER", type := .int, accessFlags := 26, slot := 4, constantValue := 0 }, { name := "MAYBE", type := .int, accessFlags := 26, slot := 5, constantValue := 0 }, { name := "allowSecurityManager", type := .int, accessFlags := 10, slot := 6, constantValue := 0 }, { name := "security", type := (.object "java/lang/SecurityManager"), accessFlags := 74, slot := 7, constantValue := 0 }, { name := "notSupportedJnuEncoding", type := (.object "java/lang/String"), accessFlags := 10, slot := 8, constantValue := 0 }, { name := "cons", type := (.object "java/io/Console"), accessFlags := 74, slot := 9, constantValue := 0 }, { name := "initialErrStream", type := (.object "java/io/PrintStream"), accessFlags := 74, slot := 10, constantValue := 0 }, { name := "props", type := (.object "java/util/Properties"), accessFlags := 10, slot := 11, constantValue := 0 }, { name := "lineSeparator", type := (.object "java/lang/String"), accessFlags := 10, slot := 12, constantValue := 0 }, { name := "bootLayer", type := (.object "java/lang/ModuleLayer"), accessFlags := 8, slot := 13, constantValue := 0 }]
  methods := #[k6m0, k6m1]
  instanceTypes := #[]
  staticTypes := #[(.object "java/io/InputStream"), (.object "java/io/PrintStream"), (.object "java/io/PrintStream"), (.object "java/io/InputStream"), .int, .int, .int, (.object "java/lang/SecurityManager"), (.object "java/lang/String"), (.object "java/io/Console"), (.object "java/io/PrintStream"), (.object "java/util/Properties"), (.object "java/lang/String"), (.object "java/lang/ModuleLayer")]
  resolved := Array.replicate 834 none
  statics := none }

def pool7 : Array CpInfo := pool [(1, u "java/lang/Cloneable"), (0, .class_ 1), (0, u "java/lang/Object"), (0, .class_ 3)] 3

/-- java/lang/Cloneable -/
def k7 : Class := { plain "java/lang/Cloneable" (some 0) with
  accessFlags := 1537
  interfaces := #[]
  cf := some (fileOf pool7 2 #[] #[] 1537 4 #[] #[])
  fields := #[]
  methods := #[]
  instanceTypes := #[]
  staticTypes := #[]
  resolved := Array.replicate 8 none
  statics := none }

def pool8 : Array CpInfo := pool [(1, u "java/io/Serializable"), (0, .class_ 1), (0, u "java/lang/Object"), (0, .class_ 3)] 3

/-- java/io/Serializable -/
def k8 : Class := { plain "java/io/Serializable" (some 0) with
  accessFlags := 1537
  interfaces := #[]
  cf := some (fileOf pool8 2 #[] #[] 1537 4 #[] #[])
  fields := #[]
  methods := #[]
  instanceTypes := #[]
  staticTypes := #[]
  resolved := Array.replicate 8 none
  statics := none }

/-- the primitive byte -/
def k9 : Class := { plain "byte" none with kind := .primitive 'B', accessFlags := 0x411 }
/-- [B -/
def k10 : Class := { plain "[B" (some 0) with kind := .array 9 .byte, interfaces := #[7, 8], accessFlags := 1041 }

/-- the primitive double -/
def k11 : Class := { plain "double" none with kind := .primitive 'D', accessFlags := 0x411 }
/-- [D -/
def k12 : Class := { plain "[D" (some 0) with kind := .array 11 .double, interfaces := #[7, 8], accessFlags := 1041 }

/-- the primitive int -/
def k13 : Class := { plain "int" none with kind := .primitive 'I', accessFlags := 0x411 }
/-- [I -/
def k14 : Class := { plain "[I" (some 0) with kind := .array 13 .int, interfaces := #[7, 8], accessFlags := 1041 }

/-- the primitive long -/
def k15 : Class := { plain "long" none with kind := .primitive 'J', accessFlags := 0x411 }
/-- [J -/
def k16 : Class := { plain "[J" (some 0) with kind := .array 15 .long, interfaces := #[7, 8], accessFlags := 1041 }

def heap : Heap := #[]
def classes : Array Class := #[k0, k1, k2, k3, k4, k5, k6, k7, k8, k9, k10, k11, k12, k13, k14, k15, k16]
def interned : List (Array UInt16 × Addr) := []
def slotsUsed : Nat := 0
def theMethod : MethodId := ⟨1, 1⟩
def args0 : Array Value := #[.int 5, .int 7, .int 9]
def aboutOver (below : List Frame) : State where
  vm := { classes := classes, interned := interned.toArray }
  heap := heap
  slotsUsed := slotsUsed
  threads := #[{ frames := .invoking theMethod args0 :: below }]
def below0 : List Frame := [.native { method := ⟨0, 0⟩, args := #[] }]
def about1 : State := aboutOver below0
def p0 : Program := .bare "" "" ""
def e0 : Env := launch0.env 0 0 0
theorem w_frames : about1.frames = Frame.invoking theMethod args0 :: below0 := rfl
set_option maxRecDepth 65536 in
theorem w_args : argsFit about1.vm theMethod args0 = true := by decide +kernel
set_option maxRecDepth 65536 in
theorem w_heap : heapFits about1 = true := by decide +kernel
set_option maxRecDepth 65536 in
theorem w_runnable : about1.curStatus? = some .runnable := by decide +kernel
set_option maxRecDepth 65536 in
theorem w_alone : about1.alone = true := by decide +kernel
set_option maxRecDepth 65536 in
theorem w_named : about1.methodNamed? x = some theMethod := by decide +kernel
set_option maxRecDepth 65536 in
theorem w_hears : about1.hears theMethod below0 = true := by decide +kernel
set_option maxRecDepth 65536 in
theorem w_ripe : about1.ripe theMethod args0 below0 = true := by decide +kernel
theorem w_running : about1.status = .running := rfl
set_option maxRecDepth 65536 in
theorem w_room : about1.hasRoom e0.platform room_1 = true :=
  launch0.hasRoom_least _ room_1 (by decide +kernel) (by decide +kernel) (by decide +kernel) (by decide +kernel) (by decide +kernel) (by decide +kernel)
theorem allAtoms_all (ts : List Jvm.Cond) (a : Array Jvm.Value) (st : Jvm.State) : (allAtoms ts).before a st = ts.all (fun c => c.before a st) := by
  induction ts with
  | nil => rfl
  | cons c t ih =>
    show (Jvm.Cond.and c (allAtoms t)).before a st = _
    rw [Jvm.Cond.before_and, ih, List.all_cons]
def words1 : List Jvm.Cond := Jvm.Cond.code x code maxLocals ret :: tables_1
/-- a 'code' word, met by the world's own term for the bytes: nothing is compared byte by byte -/
theorem code_word {y : MethodName} {bytes : ByteArray} {mx : Nat} {rt : Option FieldType} {a : Array Value} {s : State} {m : MethodId} {meth : Method} {c : Code} (h1 : s.methodNamed? y = some m) (h2 : s.vm.method? m = some meth) (h3 : meth.code = some c) (h4 : c.code = bytes)
    (h5 : (c.maxLocals == mx && c.exceptionTable.isEmpty && decide (c.maxStack ≤ mostOperands) && decide (meth.sig.returnType = rt) && !meth.locks && decide (parseMethodDescriptor y.desc = some meth.sig)) = true) : (Jvm.Cond.code y bytes mx rt).before a s = true := by
  simp only [Bool.and_eq_true, beq_iff_eq, Bool.not_eq_true', decide_eq_true_eq] at h5
  obtain ⟨⟨⟨⟨⟨g1, g2⟩, g3⟩, g4⟩, g5⟩, g6⟩ := h5
  simp [Cond.before, Cond.holds, Cond.value, h1, h2, h3, h4, g1, g2, g3, g4, g5, g6]
def isCode : Jvm.Cond → Bool
  | .code _ _ _ _ => true
  | _ => false
theorem all_split {L : List Jvm.Cond} {P : Jvm.Cond → Bool} (h1 : L.all (fun c => isCode c || P c) = true) (h2 : ∀ c ∈ L.filter isCode, P c = true) : L.all P = true := by
  refine List.all_eq_true.mpr fun c hc => ?_
  have h := List.all_eq_true.mp h1 c hc
  rcases Bool.eq_false_or_eq_true (isCode c) with hi | hi
  · exact h2 c (List.mem_filter.mpr ⟨hc, hi⟩)
  · simpa [hi] using h
set_option maxRecDepth 65536 in
theorem w_c0 : (Jvm.Cond.code x code maxLocals ret).before args0 about1 = true := code_word (m := ⟨1, 1⟩) (meth := k1m1) (c := k1c1) (by decide +kernel) rfl rfl rfl (by decide +kernel)
set_option maxRecDepth 65536 in
theorem w_c1 : (Jvm.Cond.code ({ cls := "com/example/edgewise/edgewise/EdgeSlots", name := "<init>", desc := "(Z)V" } : Jvm.MethodName) prog_12_method_1_code (2 : Nat) (Option.none : Option Jvm.ClassFile.FieldType)).before args0 about1 = true := code_word (m := ⟨2, 0⟩) (meth := k2m0) (c := k2c0) (by decide +kernel) rfl rfl rfl (by decide +kernel)
set_option maxRecDepth 65536 in
theorem w_c2 : (Jvm.Cond.code ({ cls := "java/lang/Object", name := "<init>", desc := "()V" } : Jvm.MethodName) object_method_1_code (1 : Nat) (Option.none : Option Jvm.ClassFile.FieldType)).before args0 about1 = true := code_word (m := ⟨0, 0⟩) (meth := k0m0) (c := k0c0) (by decide +kernel) rfl rfl rfl (by decide +kernel)
set_option maxRecDepth 65536 in
theorem w_c3 : (Jvm.Cond.code ({ cls := "com/example/edgewise/edgewise/EdgeSlots", name := "add", desc := "(IIDI)I" } : Jvm.MethodName) prog_12_method_2_code (7 : Nat) (Option.some Jvm.ClassFile.FieldType.int)).before args0 about1 = true := code_word (m := ⟨2, 1⟩) (meth := k2m1) (c := k2c1) (by decide +kernel) rfl rfl rfl (by decide +kernel)
set_option maxRecDepth 65536 in
theorem w_c4 : (Jvm.Cond.code ({ cls := "com/example/edgewise/edgewise/Capacity", name := "next", desc := "(I)I" } : Jvm.MethodName) prog_6_method_2_code (1 : Nat) (Option.some Jvm.ClassFile.FieldType.int)).before args0 about1 = true := code_word (m := ⟨3, 1⟩) (meth := k3m1) (c := k3c1) (by decide +kernel) rfl rfl rfl (by decide +kernel)
set_option maxRecDepth 65536 in
theorem w_c5 : (Jvm.Cond.code ({ cls := "java/lang/Math", name := "max", desc := "(JJ)J" } : Jvm.MethodName) jdk_29_method_66_code (4 : Nat) (Option.some Jvm.ClassFile.FieldType.long)).before args0 about1 = true := code_word (m := ⟨4, 2⟩) (meth := k4m2) (c := k4c2) (by decide +kernel) rfl rfl rfl (by decide +kernel)
set_option maxRecDepth 65536 in
theorem w_c6 : (Jvm.Cond.code ({ cls := "java/lang/Math", name := "min", desc := "(JJ)J" } : Jvm.MethodName) jdk_29_method_70_code (4 : Nat) (Option.some Jvm.ClassFile.FieldType.long)).before args0 about1 = true := code_word (m := ⟨4, 4⟩) (meth := k4m4) (c := k4c4) (by decide +kernel) rfl rfl rfl (by decide +kernel)
set_option maxRecDepth 65536 in
theorem w_c7 : (Jvm.Cond.code ({ cls := "com/example/edgewise/edgewise/EdgeSlots", name := "resize", desc := "(I)V" } : Jvm.MethodName) prog_12_method_22_code (2 : Nat) (Option.none : Option Jvm.ClassFile.FieldType)).before args0 about1 = true := code_word (m := ⟨2, 5⟩) (meth := k2m5) (c := k2c5) (by decide +kernel) rfl rfl rfl (by decide +kernel)
set_option maxRecDepth 65536 in
theorem w_c8 : (Jvm.Cond.code ({ cls := "java/util/Arrays", name := "copyOf", desc := "([II)[I" } : Jvm.MethodName) jdk_65_method_123_code (3 : Nat) (Option.some (Jvm.ClassFile.FieldType.array Jvm.ClassFile.FieldType.int))).before args0 about1 = true := code_word (m := ⟨5, 1⟩) (meth := k5m1) (c := k5c1) (by decide +kernel) rfl rfl rfl (by decide +kernel)
set_option maxRecDepth 65536 in
theorem w_c9 : (Jvm.Cond.code ({ cls := "java/lang/Math", name := "min", desc := "(II)I" } : Jvm.MethodName) jdk_29_method_69_code (2 : Nat) (Option.some Jvm.ClassFile.FieldType.int)).before args0 about1 = true := code_word (m := ⟨4, 3⟩) (meth := k4m3) (c := k4c3) (by decide +kernel) rfl rfl rfl (by decide +kernel)
set_option maxRecDepth 65536 in
theorem w_c10 : (Jvm.Cond.code ({ cls := "java/util/Arrays", name := "copyOf", desc := "([DI)[D" } : Jvm.MethodName) jdk_65_method_127_code (3 : Nat) (Option.some (Jvm.ClassFile.FieldType.array Jvm.ClassFile.FieldType.double))).before args0 about1 = true := code_word (m := ⟨5, 2⟩) (meth := k5m2) (c := k5c2) (by decide +kernel) rfl rfl rfl (by decide +kernel)
set_option maxRecDepth 65536 in
theorem w_c11 : (Jvm.Cond.code ({ cls := "com/example/edgewise/edgewise/EdgeSlots", name := "compact", desc := "([ILcom/example/edgewise/edgewise/Adjacency;Lcom/example/edgewise/edgewise/Adjacency;)V" } : Jvm.MethodName) prog_12_method_20_code (10 : Nat) (Option.none : Option Jvm.ClassFile.FieldType)).before args0 about1 = true := code_word (m := ⟨2, 4⟩) (meth := k2m4) (c := k2c4) (by decide +kernel) rfl rfl rfl (by decide +kernel)
set_option maxRecDepth 65536 in
theorem w_c12 : (Jvm.Cond.code ({ cls := "com/example/edgewise/edgewise/Capacity", name := "trimmed", desc := "(II)I" } : Jvm.MethodName) prog_6_method_3_code (2 : Nat) (Option.some Jvm.ClassFile.FieldType.int)).before args0 about1 = true := code_word (m := ⟨3, 2⟩) (meth := k3m2) (c := k3c2) (by decide +kernel) rfl rfl rfl (by decide +kernel)
set_option maxRecDepth 65536 in
theorem w_c13 : (Jvm.Cond.code ({ cls := "com/example/edgewise/edgewise/EdgeSlots", name := "numberAt", desc := "(I)J" } : Jvm.MethodName) prog_12_method_18_code (2 : Nat) (Option.some Jvm.ClassFile.FieldType.long)).before args0 about1 = true := code_word (m := ⟨2, 3⟩) (meth := k2m3) (c := k2c3) (by decide +kernel) rfl rfl rfl (by decide +kernel)
set_option maxRecDepth 65536 in
theorem w_c14 : (Jvm.Cond.code ({ cls := "com/example/edgewise/edgewise/EdgeSlots", name := "remove", desc := "(I)V" } : Jvm.MethodName) prog_12_method_3_code (2 : Nat) (Option.none : Option Jvm.ClassFile.FieldType)).before args0 about1 = true := code_word (m := ⟨2, 2⟩) (meth := k2m2) (c := k2c2) (by decide +kernel) rfl rfl rfl (by decide +kernel)
set_option maxRecDepth 65536 in
theorem w_c15 : (Jvm.Cond.code ({ cls := "java/lang/Math", name := "max", desc := "(II)I" } : Jvm.MethodName) jdk_29_method_65_code (2 : Nat) (Option.some Jvm.ClassFile.FieldType.int)).before args0 about1 = true := code_word (m := ⟨4, 1⟩) (meth := k4m1) (c := k4c1) (by decide +kernel) rfl rfl rfl (by decide +kernel)
def codes1 : List Jvm.Cond := [Jvm.Cond.code x code maxLocals ret, Jvm.Cond.code ({ cls := "com/example/edgewise/edgewise/EdgeSlots", name := "<init>", desc := "(Z)V" } : Jvm.MethodName) prog_12_method_1_code (2 : Nat) (Option.none : Option Jvm.ClassFile.FieldType), Jvm.Cond.code ({ cls := "java/lang/Object", name := "<init>", desc := "()V" } : Jvm.MethodName) object_method_1_code (1 : Nat) (Option.none : Option Jvm.ClassFile.FieldType), Jvm.Cond.code ({ cls := "com/example/edgewise/edgewise/EdgeSlots", name := "add", desc := "(IIDI)I" } : Jvm.MethodName) prog_12_method_2_code (7 : Nat) (Option.some Jvm.ClassFile.FieldType.int), Jvm.Cond.code ({ cls := "com/example/edgewise/edgewise/Capacity", name := "next", desc := "(I)I" } : Jvm.MethodName) prog_6_method_2_code (1 : Nat) (Option.some Jvm.ClassFile.FieldType.int), Jvm.Cond.code ({ cls := "java/lang/Math", name := "max", desc := "(JJ)J" } : Jvm.MethodName) jdk_29_method_66_code (4 : Nat) (Option.some Jvm.ClassFile.FieldType.long), Jvm.Cond.code ({ cls := "java/lang/Math", name := "min", desc := "(JJ)J" } : Jvm.MethodName) jdk_29_method_70_code (4 : Nat) (Option.some Jvm.ClassFile.FieldType.long), Jvm.Cond.code ({ cls := "com/example/edgewise/edgewise/EdgeSlots", name := "resize", desc := "(I)V" } : Jvm.MethodName) prog_12_method_22_code (2 : Nat) (Option.none : Option Jvm.ClassFile.FieldType), Jvm.Cond.code ({ cls := "java/util/Arrays", name := "copyOf", desc := "([II)[I" } : Jvm.MethodName) jdk_65_method_123_code (3 : Nat) (Option.some (Jvm.ClassFile.FieldType.array Jvm.ClassFile.FieldType.int)), Jvm.Cond.code ({ cls := "java/lang/Math", name := "min", desc := "(II)I" } : Jvm.MethodName) jdk_29_method_69_code (2 : Nat) (Option.some Jvm.ClassFile.FieldType.int), Jvm.Cond.code ({ cls := "java/util/Arrays", name := "copyOf", desc := "([DI)[D" } : Jvm.MethodName) jdk_65_method_127_code (3 : Nat) (Option.some (Jvm.ClassFile.FieldType.array Jvm.ClassFile.FieldType.double)), Jvm.Cond.code ({ cls := "com/example/edgewise/edgewise/EdgeSlots", name := "compact", desc := "([ILcom/example/edgewise/edgewise/Adjacency;Lcom/example/edgewise/edgewise/Adjacency;)V" } : Jvm.MethodName) prog_12_method_20_code (10 : Nat) (Option.none : Option Jvm.ClassFile.FieldType), Jvm.Cond.code ({ cls := "com/example/edgewise/edgewise/Capacity", name := "trimmed", desc := "(II)I" } : Jvm.MethodName) prog_6_method_3_code (2 : Nat) (Option.some Jvm.ClassFile.FieldType.int), Jvm.Cond.code ({ cls := "com/example/edgewise/edgewise/EdgeSlots", name := "numberAt", desc := "(I)J" } : Jvm.MethodName) prog_12_method_18_code (2 : Nat) (Option.some Jvm.ClassFile.FieldType.long), Jvm.Cond.code ({ cls := "com/example/edgewise/edgewise/EdgeSlots", name := "remove", desc := "(I)V" } : Jvm.MethodName) prog_12_method_3_code (2 : Nat) (Option.none : Option Jvm.ClassFile.FieldType), Jvm.Cond.code ({ cls := "java/lang/Math", name := "max", desc := "(II)I" } : Jvm.MethodName) jdk_29_method_65_code (2 : Nat) (Option.some Jvm.ClassFile.FieldType.int)]
set_option maxRecDepth 65536 in
theorem codes_eq : words1.filter isCode = codes1 := rfl
theorem w_codes : ∀ c ∈ words1.filter isCode, c.before args0 about1 = true := by
  rw [codes_eq]
  intro c hc
  simp only [codes1, List.mem_cons, List.not_mem_nil, or_false] at hc
  rcases hc with rfl | rfl | rfl | rfl | rfl | rfl | rfl | rfl | rfl | rfl | rfl | rfl | rfl | rfl | rfl | rfl
  · exact w_c0
  · exact w_c1
  · exact w_c2
  · exact w_c3
  · exact w_c4
  · exact w_c5
  · exact w_c6
  · exact w_c7
  · exact w_c8
  · exact w_c9
  · exact w_c10
  · exact w_c11
  · exact w_c12
  · exact w_c13
  · exact w_c14
  · exact w_c15
set_option maxRecDepth 65536 in
theorem w_t1 : (words1.take 24).all (fun c => isCode c || c.before args0 about1) = true := by decide +kernel
set_option maxRecDepth 65536 in
theorem w_t2 : ((words1.drop 24).take 24).all (fun c => isCode c || c.before args0 about1) = true := by decide +kernel
set_option maxRecDepth 65536 in
theorem w_t3 : (((words1.drop 24).drop 24).take 24).all (fun c => isCode c || c.before args0 about1) = true := by decide +kernel
set_option maxRecDepth 65536 in
theorem w_t4 : ((((words1.drop 24).drop 24).drop 24).take 24).all (fun c => isCode c || c.before args0 about1) = true := by decide +kernel
set_option maxRecDepth 65536 in
theorem w_t5 : ((((words1.drop 24).drop 24).drop 24).drop 24).all (fun c => isCode c || c.before args0 about1) = true := by decide +kernel
theorem w_tables : (allAtoms (Jvm.Cond.code x code maxLocals ret :: tables_1)).before args0 about1 = true := by
  rw [allAtoms_all]
  show words1.all (fun c => c.before args0 about1) = true
  refine all_split ?_ w_codes
  rw [← List.take_append_drop 24 words1, List.all_append, w_t1, ← List.take_append_drop 24 (words1.drop 24), List.all_append, w_t2, ← List.take_append_drop 24 ((words1.drop 24).drop 24), List.all_append, w_t3, ← List.take_append_drop 24 (((words1.drop 24).drop 24).drop 24), List.all_append, w_t4, w_t5]
  rfl
set_option maxRecDepth 65536 in
theorem w_case : (Jvm.Cond.and given_1 narrow_1).before args0 about1 = true := by decide +kernel
theorem w_applies : (headSpec (Jvm.Cond.code x code maxLocals ret :: tables_1) room_1).applies x e0.platform about1 = true :=
  (Spec.applies_iff w_frames).mpr ⟨w_running, w_runnable, w_alone, w_named, w_hears, w_ripe, w_room, w_tables⟩
theorem atStart : AtStart classFile x code maxLocals ret World_1 tables_1 room_1 Calls_1 rest_1 Pre_1 launch0 p0 e0 about1 theMethod args0 below0 :=
  ⟨lists_1, trivial, launch0.admits_env _ _ _, launch0.least_env, fairChoices_fair.cas, fairChoices_fair.clock, w_frames, w_args, w_heap, w_applies, trivial, trivial, w_case⟩
end start1
theorem witness_1 : WitnessClaimed_1 := ⟨start1.p0, start1.e0, start1.about1, start1.theMethod, start1.args0, start1.below0, start1.atStart⟩
end Jvm.Pilot.@@N@@
