import JvmDerived
import JvmDerived.Pilot.@@N@@Statement
import JvmDerived.Pilot.@@N@@Code
set_option linter.unusedVariables false
set_option linter.unusedSimpArgs false
namespace Jvm.Pilot.@@N@@
open Jvm Jvm.ClassFile Sem Op Lib Jvm.Free Jvm.Stand Jvm.LawKit Jvm.RoadKit Bundle Jvm.Pilot.@@N@@.Jvm.D
section Own
variable {p : Program} {l : Launch} {e : Env} {R : Room} {s : State} {m : MethodId} {args : Array Value} {below : List Frame} {meth : Method} {c : Code} {T : State} {locs : List Loc} {cells slots : Nat} {K : Outcome → State → Prop} {Z : State} {a0 : Array Value}
/-- from S the run comes to an end of which K is true -/
def Go (p : Program) (e : Env) (below : List Frame) (K : Outcome → State → Prop) (S : State) : Prop := ∃ s₂ o, Steps p.tables e below S s₂ ∧ s₂.status = .running ∧ Ended s₂ below o ∧ K o s₂
theorem Go.st {S S' : State} (h : ∀ t, Steps p.tables e below S' t → Steps p.tables e below S t) (k : Go p e below K S') : Go p e below K S := by
  obtain ⟨a, o, h1, r⟩ := k; exact ⟨a, o, h _ h1, r⟩
theorem Go.tr {S S' : State} (h : Steps p.tables e below S S') (k : Go p e below K S') : Go p e below K S := by
  obtain ⟨a, o, h1, r⟩ := k; exact ⟨a, o, h.trans h1, r⟩
def EndQ (s : State) (Q : Option Value → Heap → List Loc → Prop) (ce sl : Nat) (o : Outcome) (U : State) : Prop := ∃ v L, o = .returned v ∧ Q v U.heap L ∧ FrameEnd s o U L ce sl
theorem goRet {v : Option Value} {ce sl : Nat} {Q : Option Value → Heap → List Loc → Prop} {S : State} {h : Heap} (X : Stand p l e R s m args below meth c T locs cells slots) (hlk : meth.locks = false) (hv : meth.sig.returnType = none → v = none) (eT : T.heap = h)
    (step : ∀ fs, (∀ (f : JFrame) (acts : List Action), f.method = m → f.locked = none → f.entered = [] → (doReturn e (T.setTop f) acts v).1 = T.setFrames fs) → Steps p.tables e below S (T.setFrames fs))
    (hc : cells ≤ ce) (hs : slots ≤ sl) (hQ : Q v h locs) : Go p e below (EndQ s Q ce sl) S := by
  obtain ⟨fs, hr, hrun, hended, hW, hsame⟩ := X.leave (v := v) hv hlk
  subst eT
  exact ⟨_, _, step fs hr, hrun, hended, _, _, rfl, hQ, ⟨_, rfl⟩, hW, hsame.mono hc hs⟩
/-- ireturn of a boolean, byte, char, short -/
theorem goRetN {ce sl : Nat} {Q : Option Value → Heap → List Loc → Prop} {pc : Nat} {Ls : Array Slot} {z w : Int32} {rest : List Value} {t : FieldType} {h : Heap} (X : Stand p l e R s m args below meth c T locs cells slots) (hx : p.tables.exec = Jvm.exec) (hlk : meth.locks = false) (hret : meth.sig.returnType = some t) (ht : t = .boolean ∨ t = .byte ∨ t = .char ∨ t = .short) (hw : nar t z = w) (eT : T.heap = h)
    (hd : decode c.code pc = .ok (.ireturn, 1)) (hc : cells ≤ ce) (hs : slots ≤ sl) (hQ : Q (some (.int w)) h locs) : Go p e below (EndQ s Q ce sl) (T.setTop (mkF m pc Ls (.int z :: rest))) := by
  subst hw
  exact goRet X hlk (fun h => by rw [hret] at h; cases h) eT (fun fs hr => retN X hx hret ht hd hr) hc hs hQ
theorem goRetI {ce sl : Nat} {Q : Option Value → Heap → List Loc → Prop} {pc : Nat} {Ls : Array Slot} {z : Int32} {rest : List Value} {h : Heap} (X : Stand p l e R s m args below meth c T locs cells slots) (hx : p.tables.exec = Jvm.exec) (hlk : meth.locks = false) (hret : meth.sig.returnType = some .int) (eT : T.heap = h)
    (hd : decode c.code pc = .ok (.ireturn, 1)) (hc : cells ≤ ce) (hs : slots ≤ sl) (hQ : Q (some (.int z)) h locs) : Go p e below (EndQ s Q ce sl) (T.setTop (mkF m pc Ls (.int z :: rest))) :=
  goRet X hlk (fun h => by rw [hret] at h; cases h) eT (fun fs hr => retOut X hx hret rfl (Or.inl ⟨rfl, Or.inl rfl, z, rfl⟩) hd hr) hc hs hQ
theorem goRetJ {ce sl : Nat} {Q : Option Value → Heap → List Loc → Prop} {pc : Nat} {Ls : Array Slot} {z : Int64} {rest : List Value} {h : Heap} (X : Stand p l e R s m args below meth c T locs cells slots) (hx : p.tables.exec = Jvm.exec) (hlk : meth.locks = false) (hret : meth.sig.returnType = some .long) (eT : T.heap = h)
    (hd : decode c.code pc = .ok (.lreturn, 1)) (hc : cells ≤ ce) (hs : slots ≤ sl) (hQ : Q (some (.long z)) h locs) : Go p e below (EndQ s Q ce sl) (T.setTop (mkF m pc Ls (.long z :: rest))) :=
  goRet X hlk (fun h => by rw [hret] at h; cases h) eT (fun fs hr => retOut X hx hret rfl (Or.inr (Or.inl ⟨rfl, rfl, z, rfl⟩)) hd hr) hc hs hQ
theorem goRetA {ce sl : Nat} {Q : Option Value → Heap → List Loc → Prop} {pc : Nat} {Ls : Array Slot} {w : Value} {rest : List Value} {t : FieldType} {h : Heap} (X : Stand p l e R s m args below meth c T locs cells slots) (hx : p.tables.exec = Jvm.exec) (hlk : meth.locks = false) (hret : meth.sig.returnType = some t) (ht : t.isReference = true) (hw : w.isRef = true) (hn : narrow t w = w) (eT : T.heap = h)
    (hd : decode c.code pc = .ok (.areturn, 1)) (hc : cells ≤ ce) (hs : slots ≤ sl) (hQ : Q (some w) h locs) : Go p e below (EndQ s Q ce sl) (T.setTop (mkF m pc Ls (w :: rest))) :=
  goRet X hlk (fun h => by rw [hret] at h; cases h) eT (fun fs hr => retOut X hx hret hn (Or.inr (Or.inr (Or.inr (Or.inr ⟨rfl, ht, hw⟩)))) hd hr) hc hs hQ
theorem goRetV {ce sl : Nat} {Q : Option Value → Heap → List Loc → Prop} {pc : Nat} {Ls : Array Slot} {h : Heap} (X : Stand p l e R s m args below meth c T locs cells slots) (hx : p.tables.exec = Jvm.exec) (hlk : meth.locks = false) (hret : meth.sig.returnType = none) (eT : T.heap = h)
    (hd : decode c.code pc = .ok (.return_, 1)) (hc : cells ≤ ce) (hs : slots ≤ sl) (hQ : Q none h locs) : Go p e below (EndQ s Q ce sl) (T.setTop (mkF m pc Ls [])) :=
  goRet X hlk (fun _ => rfl) eT (fun fs hr => X.returnOut hx hret hd hr) hc hs hQ
/-- a method's contract, in the form that a caller takes -/
abbrev Ctr (l : Launch) (y : MethodName) (bytes : ByteArray) (maxL : Nat) (ret : Option FieldType) (ws : List Jvm.Cond) (rm : Room) (as : Array Value) (Z : State) (h0 : Heap) (Q : Option Value → Heap → List Loc → Prop) : Prop :=
  MetFree l y (head1 (Jvm.Cond.code y bytes maxL ret :: ws) rm) (fun a U => a = as ∧ Z.Warmed39 U.vm ∧ U.heap = h0) (fun _ _ _ _ _ => True) (fun _ U o U' => ∃ v L, o = .returned v ∧ Q v U'.heap L ∧ FrameEnd U o U' L rm.cells rm.slots)
theorem Ctr.of {y : MethodName} {bytes : ByteArray} {maxL : Nat} {ret : Option FieldType} {ws : List Jvm.Cond} {rm : Room} {as : Array Value} {h0 : Heap} {Q : Option Value → Heap → List Loc → Prop} (hpl : plainFor y = true)
    (body : ∀ (p : Program) (e : Env) (s : State) (m : MethodId) (below : List Frame) (meth : Method) (c : Code) (s₁ : State), p.tables.exec = Jvm.exec → Z.Warmed39 s.vm → c.code = bytes → c.maxLocals = maxL → s.vm.findClass y.cls = some m.cls → meth.name = y.name → meth.sig.returnType = ret → meth.locks = false →
      Stand p l e rm s m as below meth c s₁ [] 0 0 → s₁.heap = h0 → Go p e below (EndQ s Q rm.cells rm.slots) (s₁.setTop (entryFrame m as maxL))) :
    Ctr l y bytes maxL ret ws rm as Z h0 Q := by
  refine MetFree.of_bodySF hpl hisR ?_
  intro p e s m args below meth c s₁ Bd hml hP _
  obtain ⟨rfl, hZ, hh⟩ := hP
  exact body p e s m below meth c s₁ Bd.exec hZ Bd.bytes hml (findClass_of_methodNamed Bd.named) (name_of_methodNamed Bd.named Bd.method).1 Bd.returns Bd.notSynchronized (Stand.of_body Bd) (by rw [← hh, Bd.state]; rfl)
theorem goCallS (X : Stand p l e R s m args below meth c T locs cells slots) (hx : p.tables.exec = Jvm.exec) (hZ : Z.Warmed39 s.vm) {own : String} {index : Nat} {y : MethodName} {bytes : ByteArray} {maxL : Nat} {ret : Option FieldType} (hown : s.vm.findClass own = some m.cls)
    (w1 : (Jvm.Cond.methodLink own index y).before a0 Z = true) (w2 : (Jvm.Cond.static y).before a0 Z = true) (w3 : (Jvm.Cond.initialized y.cls).before a0 Z = true) (w4 : (Jvm.Cond.code y bytes maxL ret).before a0 Z = true) (hy : y.cls ≠ "java/lang/invoke/MethodHandle" ∧ y.cls ≠ "java/lang/invoke/VarHandle")
    {h : Heap} {rm : Room} {argsL rest : List Value} {Q : Option Value → Heap → List Loc → Prop} (eT : T.heap = h) (hC : Ctr l y bytes maxL ret [] rm argsL.toArray Z h Q) (W : Nat) (hf : rm.frames + 1 ≤ R.frames) (hl : W + (maxL + 11) + rm.locals ≤ R.locals) (hcl : cells + rm.cells ≤ R.cells) (hsl : slots + rm.slots ≤ R.slots)
    (g : JFrame) (hg : g.method = m) (hsize : g.locals.size = c.maxLocals) (hlen : ∀ sig, parseMethodDescriptor y.desc = some sig → argsL.length = sig.parameters.length) (hst : g.stack = argsL.reverse ++ rest) (hd : decode c.code g.pc = .ok (.invokestatic index, 3))
    (hW : 2 * g.monitorRoom + (rest.map fun v => v.category).sum ≤ W)
    (next : ∀ (v : Option Value) (T' : State) (L : List Loc), Stand p l e R s m args below meth c T' (locs ++ L) (cells + rm.cells) (slots + rm.slots) → Q v T'.heap L → Go p e below K (T'.setTop { g with pc := g.pc + 3, stack := v.toList ++ rest })) :
    Go p e below K (T.setTop g) := by
  subst eT
  obtain ⟨v, _, ⟨T', L', k', n'⟩, -, X', ⟨L, hQ, l1, y1, z1⟩, stp⟩ := Jvm.LawKit.callS X hx hown (mvT hZ w1) (mvT hZ w2) (mvT hZ w3) (mvT hZ w4) hy (backOf (W := W) hC hZ w4 w3 hf hl) (g := g) hg hsize hlen hst hW hd (fun _ _ => ⟨rfl, rfl, hcl, hsl⟩)
  dsimp only [Pt.U, Pt.locs, Pt.cells, Pt.slots] at X' l1 y1 z1 stp hQ
  subst l1 y1 z1
  exact Go.st stp (next v T' L X' hQ)
theorem goInit (X : Stand p l e R s m args below meth c T locs cells slots) (hx : p.tables.exec = Jvm.exec) (hZ : Z.Warmed39 s.vm) {own : String} {index : Nat} {y : MethodName} {bytes : ByteArray} {maxL : Nat} (hy1 : y.name = "<init>") (hown : s.vm.findClass own = some m.cls)
    (w1 : (Jvm.Cond.methodLink own index y).before a0 Z = true) (w2 : (Jvm.Cond.instanceMethod y).before a0 Z = true) (w3 : (Jvm.Cond.initialized y.cls).before a0 Z = true) (w4 : (Jvm.Cond.code y bytes maxL none).before a0 Z = true) (hy : y.cls ≠ "java/lang/invoke/MethodHandle" ∧ y.cls ≠ "java/lang/invoke/VarHandle")
    {h : Heap} {rm : Room} {a : Addr} {argsL rest : List Value} {Q : Option Value → Heap → List Loc → Prop} (eT : T.heap = h) (hC : Ctr l y bytes maxL none [] rm (.ref a :: argsL).toArray Z h Q) (W : Nat) (hf : rm.frames + 1 ≤ R.frames) (hl : W + (maxL + 11) + rm.locals ≤ R.locals) (hcl : cells + rm.cells ≤ R.cells) (hsl : slots + rm.slots ≤ R.slots)
    (g : JFrame) (hg : g.method = m) (hsize : g.locals.size = c.maxLocals) (hlen : ∀ sig, parseMethodDescriptor y.desc = some sig → argsL.length = sig.parameters.length) (hst : g.stack = argsL.reverse ++ .ref a :: rest) (hd : decode c.code g.pc = .ok (.invokespecial index, 3))
    (hW : 2 * g.monitorRoom + (rest.map fun v => v.category).sum ≤ W)
    (next : ∀ (v : Option Value) (T' : State) (L : List Loc), Stand p l e R s m args below meth c T' (locs ++ L) (cells + rm.cells) (slots + rm.slots) → Q v T'.heap L → Go p e below K (T'.setTop { g with pc := g.pc + 3, stack := v.toList ++ rest })) :
    Go p e below K (T.setTop g) := by
  subst eT
  obtain ⟨v, _, ⟨T', L', k', n'⟩, -, X', ⟨L, hQ, l1, y1, z1⟩, stp⟩ := X.specialBack hx hy1 hown (mvT hZ w1) (mvT hZ w2) (mvT hZ w4) hy (backOf (W := W) hC hZ w4 w3 hf hl) (g := g) hg hsize (Steps.refl _) hlen hst hW hd (fun _ _ => ⟨rfl, rfl, hcl, hsl⟩)
  dsimp only [Pt.U, Pt.locs, Pt.cells, Pt.slots] at X' l1 y1 z1 stp hQ
  subst l1 y1 z1
  exact Go.tr stp (next v T' L X' hQ)
theorem goVirt (X : Stand p l e R s m args below meth c T locs cells slots) (hx : p.tables.exec = Jvm.exec) (hZ : Z.Warmed39 s.vm) {own C : String} {index : Nat} {y z : MethodName} {bytes : ByteArray} {maxL : Nat} {ret : Option FieldType} (hown : s.vm.findClass own = some m.cls)
    (w1 : (Jvm.Cond.methodLink own index y).before a0 Z = true) (w2 : (Jvm.Cond.declares y).before a0 Z = true) (hnf : NotFace s y) (w5 : (Jvm.Cond.selects C y z).before a0 Z = true) (w6 : (Jvm.Cond.instanceMethod z).before a0 Z = true) (w3 : (Jvm.Cond.initialized z.cls).before a0 Z = true) (w4 : (Jvm.Cond.code z bytes maxL ret).before a0 Z = true) (hy : y.cls ≠ "java/lang/invoke/MethodHandle" ∧ y.cls ≠ "java/lang/invoke/VarHandle")
    {h : Heap} {rm : Room} {a : Addr} {argsL rest : List Value} {Q : Option Value → Heap → List Loc → Prop} (eT : T.heap = h) (E : Exa Z h a C) (hC : Ctr l z bytes maxL ret [] rm (.ref a :: argsL).toArray Z h Q) (W : Nat) (hf : rm.frames + 1 ≤ R.frames) (hl : W + (maxL + 11) + rm.locals ≤ R.locals) (hcl : cells + rm.cells ≤ R.cells) (hsl : slots + rm.slots ≤ R.slots)
    (g : JFrame) (hg : g.method = m) (hsize : g.locals.size = c.maxLocals) (hlen : ∀ sig, parseMethodDescriptor y.desc = some sig → argsL.length = sig.parameters.length) (hst : g.stack = argsL.reverse ++ .ref a :: rest) (hd : decode c.code g.pc = .ok (.invokevirtual index, 3))
    (hW : 2 * g.monitorRoom + (rest.map fun v => v.category).sum ≤ W)
    (next : ∀ (v : Option Value) (T' : State) (L : List Loc), Stand p l e R s m args below meth c T' (locs ++ L) (cells + rm.cells) (slots + rm.slots) → Q v T'.heap L → Go p e below K (T'.setTop { g with pc := g.pc + 3, stack := v.toList ++ rest })) :
    Go p e below K (T.setTop g) := by
  subst eT
  obtain ⟨cq, kq, qa, qb, qc⟩ := isOf (T := T) hZ rfl E
  obtain ⟨v, _, ⟨T', L', k', n'⟩, -, X', ⟨L, hQ, l1, y1, z1⟩, stp⟩ := X.virtualBack hx hown (mvT hZ w1) (mvT hZ w2) hnf (mvT hZ w5) (mvT hZ w6) hy (backOf (W := W) hC hZ w4 w3 hf hl) qa qc (g := g) hg hsize (Steps.refl _) hlen hst hW hd (fun _ _ => ⟨rfl, rfl, hcl, hsl⟩)
  dsimp only [Pt.U, Pt.locs, Pt.cells, Pt.slots] at X' l1 y1 z1 stp hQ
  subst l1 y1 z1
  exact Go.tr stp (next v T' L X' hQ)
theorem oldGe {h : Heap} {n0 : Nat} {b : Addr} (O : Old Z n0 h) (g : b = h.size) : n0 ≤ b := by rw [g, ← O.1]; exact O.2.1
theorem oldSta {h : Heap} {n0 : Nat} {C n d : String} {v : Value} (O : Old Z n0 h) (S : Sta Z Z.heap C n d v) : Sta Z h C n d v := S.ext O.2
theorem oldExa {h : Heap} {n0 : Nat} {C : String} {a : Addr} (O : Old Z n0 h) (S : Exa Z Z.heap a C) : Exa Z h a C := S.ext O.2
theorem oldFld {h : Heap} {n0 : Nat} {a : Addr} {C n d : String} {v : Value} (O : Old Z n0 h) (S : Fld Z Z.heap a C n d v) : Fld Z h a C n d v := S.ext O.2
end Own
theorem fldStart {args : Array Value} {Z : State} {t : Term} {a : Addr} {C n d : String} {v : Int32} (ev : t.eval args Z none [] Z = some (.ref a)) (h : (Jvm.Cond.eq (.field t C n d) (.int v)).value args Z none Z [] = some true) : Fld Z Z.heap a C n d (.int v) := by
  cases hf : Z.fieldOf? a C n d with
  | none => simp [Cond.value, Term.eval, ev, hf] at h
  | some x =>
    cases x <;> simp [Cond.value, Term.eval, ev, hf] at h
    exact Fld.start (by rw [hf, h])
theorem staInt {args : Array Value} {Z : State} {C n d : String} {v : Int32} (h : (Jvm.Cond.eq (.static C n d) (.int v)).value args Z none Z [] = some true) : (Term.static C n d).eval args Z none [] Z = some (.int v) := by
  obtain ⟨x, y, h1, h2, k1, k2⟩ := cmp_v (Or.inl h)
  cases (Term.int_eval v (args := args) (first := Z) (o := none) (idx := []) (s := Z)).symm.trans h2
  obtain ⟨z, rfl⟩ := k2
  rw [h1]
  simp [Cond.value, h1, Term.int_eval] at h
  rw [h]
theorem narZ {z : Int32} (h : z = 0 ∨ z = 1) : nar .boolean z = z := by rcases h with rfl | rfl <;> decide
theorem goJoin {p : Program} {e : Env} {below : List Frame} {K : Outcome → State → Prop} {S : State} {α : Type} {P : α → Prop} {F : α → State} (h1 : ∀ z, P z → Go p e below K (F z)) (h2 : (∀ z, P z → Go p e below K (F z)) → Go p e below K S) : Go p e below K S := h2 h1
theorem own_bit {z : Int32} {P : Prop} [Decidable P] (h : z = (if P then (1 : Int32) else 0)) : z = 0 ∨ z = 1 := by rw [h]; by_cases q : P <;> simp [q]
theorem lenStart {args : Array Value} {Z : State} {t : Term} {a : Addr} {cl : Cell} {n : Int32} (ev : t.eval args Z none [] Z = some (.ref a)) (ha : Z.arrayAt? a = some cl) (h : (Jvm.Cond.eq (.length t) (.int n)).value args Z none Z [] = some true) : cl.slots.size < 2 ^ 31 ∧ cl.slots.size.toInt32 = n := by
  have h1 := eqv_i (Term.int_eval n) h
  by_cases q : cl.slots.size < 2 ^ 31
  · rw [len_f ev ha q] at h1
    exact ⟨q, by simpa using h1⟩
  · simp [Term.eval, ev, ha, q] at h1
theorem nsRoot {Z : State} {a0 : Array Value} {O K : String} {n : Nat} (w : (Jvm.Cond.noSuperclass O).before a0 Z = true) (wi : (Jvm.Cond.instantiable K n).before a0 Z = true) (hn : O ≠ K) : NS Z O K := by
  obtain ⟨c, k, h1, h2, h3, -, -⟩ := Cond.noSuperclass_spec w
  obtain ⟨t, k', g1, -⟩ := Cond.instantiable_spec wi
  have ne := ids_ne h1 g1 hn
  refine ⟨c, t, h1, g1, fun fuel => ?_⟩
  cases fuel with
  | zero => rfl
  | succ f => simp [Vm.isSubclassAux, ne, h2, h3]
theorem nsNo {Z : State} {a0 : Array Value} {C S K : String} {n : Nat} (w : (Jvm.Cond.superclass C S).before a0 Z = true) (wi : (Jvm.Cond.instantiable K n).before a0 Z = true) (nn : NS Z C K) (hn : C ≠ K) : ∃ c t, Z.vm.findClass C = some c ∧ Z.vm.findClass K = some t ∧ Z.vm.assignable c t = false := by
  obtain ⟨c, t, h0, g0, n3⟩ := nn
  obtain ⟨p, k, kp, h1, h2, h3, h4, h5, -, h7⟩ := Cond.superclass_spec h0 w
  obtain ⟨t', k', g1, g2, g5, g6, -⟩ := Cond.instantiable_spec wi
  cases g0.symm.trans g1
  have g7 : k'.isInterface = false := by
    cases hq : k'.isInterface with
    | false => rfl
    | true => rw [hq] at g6; simp at g6
  have ne := ids_ne h0 g0 hn
  refine ⟨c, t, h0, g0, ?_⟩
  show Z.vm.assignableAux (255 + 1) c t = false
  simp [Vm.assignableAux, ne, h2, g2, h5, g5, g7, Vm.isSubclass, n3]
theorem subAt {args : Array Value} {Z : State} {a b : Term} {idx : List Nat} {x y : Int32} (ha : a.eval args Z none idx Z = some (.int x)) (hb : b.eval args Z none idx Z = some (.int y)) : (Term.sub a b).eval args Z none idx Z = some (.int (x - y)) := by simp [Term.eval, ha, hb]
theorem elemStart {args : Array Value} {Z : State} {t u : Term} {a w : Addr} {cl : Cell} {ty : FieldType} {j : Int32} (ev : t.eval args Z none [] Z = some (.ref a)) (A : Arr Z Z.heap a cl ty) (evu : u.eval args Z none [] Z = some (.ref w)) (h : (Jvm.Cond.eq (.elem t (.int j)) u).value args Z none Z [] = some true) : cl.slots[j.toNatClampNeg]? = some (.ref w) := by
  obtain ⟨x, y, h1, h2, k1, k2⟩ := cmp_v (Or.inl h)
  cases evu.symm.trans h2
  have hx : x.isRef = true := k2.2
  have e : x = .ref w := gotT (eq_R h1 h2 hx rfl) h
  rw [← e]
  exact (elem_in h1 ev (Term.int_eval j) A.1).2
theorem own_ite {P Q : Prop} [Decidable P] [Decidable Q] (h : P ↔ Q) : (if P then (1 : Int32) else 0) = (if Q then (1 : Int32) else 0) := by
  by_cases p : P
  · rw [if_pos p, if_pos (h.mp p)]
  · rw [if_neg p, if_neg (fun q => p (h.mpr q))]
theorem own_and3 (y : Int32) : y &&& (3 : Int32) = (0 : Int32) ∨ y &&& (3 : Int32) = (1 : Int32) ∨ y &&& (3 : Int32) = (2 : Int32) ∨ y &&& (3 : Int32) = (3 : Int32) := by
  have h1 := c_mask y 3 2 (by decide) (by decide)
  generalize y &&& (3 : Int32) = z at h1
  have h3 : z.toInt = 0 ∨ z.toInt = 1 ∨ z.toInt = 2 ∨ z.toInt = 3 := by omega
  rcases h3 with h | h | h | h
  · exact Or.inl (Int32.toInt_inj.mp h)
  · exact Or.inr (Or.inl (Int32.toInt_inj.mp h))
  · exact Or.inr (Or.inr (Or.inl (Int32.toInt_inj.mp h)))
  · exact Or.inr (Or.inr (Or.inr (Int32.toInt_inj.mp h)))
theorem own_amt {c : Int32} {b : Nat} (h : c.toInt = b) : (c &&& 0x3f).toInt64.toBitVec = BitVec.ofNat 64 (b % 64) ∧ b % 64 < 64 := by
  have hb : b < 2 ^ 31 := by have := c.toInt_lt; omega
  have e : c.toBitVec.toNat = b := by
    have h' : c.toBitVec.toInt = b := h
    rw [BitVec.toInt_eq_toNat_cond] at h'
    split at h' <;> omega
  exact sm64 c (b % 64) (by rw [e])
theorem own_shl (x : Int64) {c : Int32} {b : Nat} (h : c.toInt = b) : (x <<< (c &&& 0x3f).toInt64).toBitVec = x.toBitVec <<< (b % 64) := by
  obtain ⟨e1, e2⟩ := own_amt h
  rw [Int64.toBitVec_shiftLeft, e1]
  rw [BitVec.shiftLeft_eq', smod64 _ e2]
theorem own_shr (x : Int64) {c : Int32} {b : Nat} (h : c.toInt = b) : ((x.toUInt64 >>> (c &&& 0x3f).toInt64.toUInt64).toInt64).toBitVec = x.toBitVec >>> (b % 64) := by
  obtain ⟨e1, e2⟩ := own_amt h
  have e3 : (c &&& 0x3f).toInt64.toUInt64.toBitVec = BitVec.ofNat 64 (b % 64) := e1
  show (x.toUInt64 >>> (c &&& 0x3f).toInt64.toUInt64).toBitVec = _
  rw [UInt64.toBitVec_shiftRight, e3]
  show x.toBitVec >>> (BitVec.ofNat 64 (b % 64) % 64) = _
  rw [BitVec.ushiftRight_eq', BitVec.toNat_umod, BitVec.toNat_ofNat]
  congr 1
  have : (64 : BitVec 64).toNat = 64 := rfl
  rw [this]; omega
def bt (x : Int64) (i : Nat) : Bool := x.toBitVec.getLsbD i
theorem bt_ext {x y : Int64} (h : ∀ i, i < 64 → bt x i = bt y i) : x = y := Int64.toBitVec_inj.mp (BitVec.eq_of_getLsbD_eq h)
theorem bt_big {x : Int64} {i : Nat} (h : 64 ≤ i) : bt x i = false := BitVec.getLsbD_of_ge _ _ h
theorem bt_and (x y : Int64) (i : Nat) : bt (x &&& y) i = (bt x i && bt y i) := by simp [bt]
theorem bt_or (x y : Int64) (i : Nat) : bt (x ||| y) i = (bt x i || bt y i) := by simp [bt]
theorem bt_xor (x y : Int64) (i : Nat) : bt (x ^^^ y) i = (bt x i ^^ bt y i) := by simp [bt]
theorem bt_m1 {i : Nat} (h : i < 64) : bt (-1) i = true := by
  have e : (-1 : Int64).toBitVec = BitVec.allOnes 64 := by decide
  rw [bt, e, BitVec.getLsbD_allOnes]; simp [h]
theorem bt_shl (x : Int64) {c : Int32} {b i : Nat} (h : c.toInt = b) (hi : i < 64) : bt (x <<< (c &&& 0x3f).toInt64) i = (decide (b % 64 ≤ i) && bt x (i - b % 64)) := by
  rw [bt, own_shl x h, BitVec.getLsbD_shiftLeft]
  simp only [hi, decide_true, Bool.true_and, bt]
  by_cases q : i < b % 64
  · simp [q, show ¬ b % 64 ≤ i by omega]
  · simp [q, show b % 64 ≤ i by omega]
theorem bt_shr (x : Int64) {c : Int32} {b : Nat} (i : Nat) (h : c.toInt = b) : bt ((x.toUInt64 >>> (c &&& 0x3f).toInt64.toUInt64).toInt64) i = bt x (b % 64 + i) := by
  rw [bt, own_shr x h, BitVec.getLsbD_ushiftRight]; rfl
/-- the mask of b bits -/
theorem bt_mask {c : Int32} {b i : Nat} (h : c.toInt = b) (hb : b < 64) (hi : i < 64) : bt (((1 : Int64) <<< (c &&& 0x3f).toInt64) - 1) i = decide (i < b) := by
  have e : (((1 : Int64) <<< (c &&& 0x3f).toInt64) - 1).toBitVec.toNat = 2 ^ b - 1 := by
    rw [Int64.toBitVec_sub, own_shl 1 h, Nat.mod_eq_of_lt hb]
    have : (1 : Int64).toBitVec = 1#64 := rfl
    rw [this, BitVec.toNat_sub, BitVec.toNat_shiftLeft]
    have h1 : (1#64).toNat = 1 := rfl
    rw [h1, Nat.one_shiftLeft]
    have : 2 ^ b < 2 ^ 64 := Nat.pow_lt_pow_right (by decide) hb
    have := Nat.one_le_two_pow (n := b)
    rw [Nat.mod_eq_of_lt (by omega : 2 ^ b < 2 ^ 64)]
    omega
  rw [bt, BitVec.getLsbD, e, Nat.testBit_two_pow_sub_one]
theorem bt_i2l (x : Int32) {i : Nat} (hi : i < 32) : bt x.toInt64 i = x.toBitVec.getLsbD i := by
  have : x.toInt64.toBitVec = x.toBitVec.signExtend 64 := rfl
  rw [bt, this, BitVec.getLsbD_signExtend]; simp [hi, show i < 64 by omega]
theorem bt_l2i (x : Int64) {i : Nat} (hi : i < 32) : x.toInt32.toBitVec.getLsbD i = bt x i := by
  rw [Int64.toBitVec_toInt32, BitVec.getLsbD_signExtend]; simp [hi, bt, show i < 64 by omega]
theorem bt_lt {x : Int64} {b : Nat} (h : x.toBitVec.toNat < 2 ^ b) {i : Nat} (hi : b ≤ i) : bt x i = false := by
  rw [bt, BitVec.getLsbD]; exact Nat.testBit_lt_two_pow (Nat.lt_of_lt_of_le h (Nat.pow_le_pow_right (by decide) hi))
def own_set (w m : Int64) (c x : Int32) : Int64 := (w &&& ((m <<< (c &&& 0x3f).toInt64) ^^^ (-1 : Int64))) ||| ((x.toInt64 &&& m) <<< (c &&& 0x3f).toInt64)
def own_get (w m : Int64) (c : Int32) : Int64 := ((w.toUInt64 >>> (c &&& 0x3f).toInt64.toUInt64).toInt64) &&& m
theorem bt_set {w m : Int64} {c x : Int32} {s b : Nat} (hc : c.toInt = s) (hm : ∀ i, i < 64 → bt m i = decide (i < b)) (hsb : s % 64 + b ≤ 64) {i : Nat} (hi : i < 64) : bt (own_set w m c x) i = if s % 64 ≤ i ∧ i < s % 64 + b then bt x.toInt64 (i - s % 64) else bt w i := by
  rw [own_set, bt_or, bt_and, bt_xor, bt_shl _ hc hi, bt_shl _ hc hi, bt_m1 hi, bt_and, hm _ (by omega)]
  by_cases q : s % 64 ≤ i
  · by_cases r : i < s % 64 + b
    · simp [q, r, show i - s % 64 < b by omega]
    · simp [q, r, show ¬ (i - s % 64 < b) by omega]
  · simp [q]
theorem bt_get {w m : Int64} {c : Int32} {s b : Nat} (hc : c.toInt = s) (hm : ∀ i, i < 64 → bt m i = decide (i < b)) {i : Nat} (hi : i < 64) : bt (own_get w m c) i = (bt w (s % 64 + i) && decide (i < b)) := by
  rw [own_get, bt_and, bt_shr _ _ hc, hm _ hi]
/-- what was laid into a field is read back, whatever was laid beside it behind -/
theorem get_set {w w' m : Int64} {c x : Int32} {s b : Nat} {r : Int64} (hc : c.toInt = s) (hm : ∀ i, i < 64 → bt m i = decide (i < b)) (hsb : s % 64 + b ≤ 64) (hb : b ≤ 32) (hr : r.toBitVec.toNat < 2 ^ b) (hx : x = r.toInt32)
    (hw : ∀ i, s % 64 ≤ i → i < s % 64 + b → bt w' i = bt (own_set w m c x) i) : (own_get w' m c).toInt32 = x := by
  have e : own_get w' m c = r := bt_ext fun i hi => by
    rw [bt_get hc hm hi]
    by_cases q : i < b
    · rw [hw _ (by omega) (by omega), bt_set hc hm hsb (by omega), if_pos ⟨by omega, by omega⟩, show s % 64 + i - s % 64 = i by omega, hx, bt_i2l _ (by omega), bt_l2i _ (by omega)]; simp [q]
    · rw [bt_lt hr (by omega)]; simp [q]
  rw [e, hx]
def own_nlz32 (x z : Int32) : Prop := ∃ b : Nat, b ≤ 32 ∧ z.toInt = 32 - b ∧ x.toBitVec.toNat < 2 ^ b ∧ (b = 0 ∨ 2 ^ (b - 1) ≤ x.toBitVec.toNat)
def own_nlz64 (x : Int64) (z : Int32) : Prop := ∃ b : Nat, b ≤ 64 ∧ z.toInt = 64 - b ∧ x.toBitVec.toNat < 2 ^ b ∧ (b = 0 ∨ 2 ^ (b - 1) ≤ x.toBitVec.toNat)
def own_nz (x : Int32) (K B : Nat) (i n : Int32) : Prop := ∃ k : Nat, k ≤ K ∧ n.toInt = 31 - k ∧ i.toInt = (x.toInt.toNat / 2 ^ k : Nat) ∧ 0 < i.toInt ∧ i.toInt < B
theorem nz_start {x : Int32} (h : (0 : Int32) < x) : own_nz x 0 (2 ^ 31) x 31 := by
  rw [Int32.lt_iff_toInt_lt, show (0 : Int32).toInt = 0 from rfl] at h
  have := x.toInt_lt
  exact ⟨0, Nat.le_refl _, by decide, by rw [Nat.pow_zero, Nat.div_one]; omega, h, by omega⟩
theorem nz_no {x i n t : Int32} {K K' B c : Nat} (N : own_nz x K B i n) (h : i < t) (ht : t.toInt = c) (hK : K ≤ K') : own_nz x K' c i n := by
  obtain ⟨k, h1, h2, h3, h4, h5⟩ := N
  rw [Int32.lt_iff_toInt_lt, ht] at h
  exact ⟨k, by omega, h2, h3, h4, h⟩
theorem nz_yes {x i n t q d : Int32} {K B B' c j : Nat} (N : own_nz x K B i n) (h : ¬ i < t) (ht : t.toInt = c) (hc : c = 2 ^ j) (hj : 0 < j) (hj2 : j ≤ 31) (hq : q.toBitVec.toNat % 32 = j) (hd : d.toInt = -j) (hB : B / c < B' ∨ (B ≤ B' * c ∧ 0 < c)) (hK : K + j ≤ 31) : own_nz x (K + j) B' ((i.toUInt32 >>> (q &&& 31).toUInt32).toInt32) (n + d) := by
  obtain ⟨k, h1, h2, h3, h4, h5⟩ := N
  rw [Int32.lt_iff_toInt_lt, ht] at h
  have e1 := c_iushr i q j hq hj
  have hi := i.toInt_lt
  rw [Int.emod_eq_of_lt (by omega) (by omega)] at e1
  have e2 : ((x.toInt.toNat / 2 ^ k : Nat) : Int) / ((2 ^ j : Nat) : Int) = (x.toInt.toNat / 2 ^ (k + j) : Nat) := by
    rw [← Int.natCast_ediv, Nat.div_div_eq_div_mul, Nat.pow_add]
  have e3 : (n + d).toInt = 31 - (k + j : Nat) := by
    rw [Int32.toInt_add, h2, hd]
    rw [Int.bmod_eq_of_le (by omega) (by omega)]; omega
  have hp : 0 < 2 ^ j := Nat.two_pow_pos j
  refine ⟨k + j, by omega, e3, by rw [e1, h3, e2], ?_, ?_⟩
  · rw [e1]
    have : (1 : Int) ≤ i.toInt / (2 ^ j : Nat) := by
      rw [Int.le_ediv_iff_mul_le (by omega)]; rw [← hc]; omega
    omega
  · rw [e1, ← hc]
    rcases hB with hB | ⟨hB, hc0⟩
    · have : i.toInt / c ≤ (B : Int) / c := Int.ediv_le_ediv (by omega) (by omega)
      rw [← Int.natCast_ediv] at this; omega
    · rw [Int.ediv_lt_iff_lt_mul (by omega)]
      have : (B : Int) ≤ B' * c := by exact_mod_cast hB
      omega
theorem toNat_pos {x : Int32} (h : 0 ≤ x.toInt) : x.toBitVec.toNat = x.toInt.toNat := by
  have h' : 0 ≤ x.toBitVec.toInt := h
  show x.toBitVec.toNat = x.toBitVec.toInt.toNat
  rw [BitVec.toInt_eq_toNat_cond] at h' ⊢
  split at h' <;> rename_i q
  · rw [if_pos q]; omega
  · omega
theorem nz_end {x i n : Int32} (hx : (0 : Int32) < x) (N : own_nz x 30 4 i n) : own_nlz32 x (n - ((i.toUInt32 >>> ((1 : Int32) &&& 31).toUInt32).toInt32)) := by
  obtain ⟨k, h1, h2, h3, h4, h5⟩ := N
  rw [Int32.lt_iff_toInt_lt, show (0 : Int32).toInt = 0 from rfl] at hx
  have e1 := c_iushr i 1 1 (by decide) (by decide)
  rw [Int.emod_eq_of_lt (by omega) (by omega)] at e1
  have e0 := toNat_pos (x := x) (by omega)
  have hp : 0 < 2 ^ k := Nat.two_pow_pos k
  have hdm := Nat.div_add_mod x.toInt.toNat (2 ^ k)
  have hml := Nat.mod_lt x.toInt.toNat hp
  generalize hQ : x.toInt.toNat / 2 ^ k = Q at *
  have hs : (n - ((i.toUInt32 >>> ((1 : Int32) &&& 31).toUInt32).toInt32)).toInt = 31 - k - i.toInt / 2 := by
    rw [Int32.toInt_sub, h2, e1]
    rw [Int.bmod_eq_of_le (by omega) (by omega)]; rfl
  have hQ3 : Q = 1 ∨ Q = 2 ∨ Q = 3 := by omega
  rcases hQ3 with rfl | rfl | rfl
  · refine ⟨k + 1, by omega, by omega, ?_, Or.inr ?_⟩
    · rw [e0, Nat.pow_succ]; omega
    · rw [e0, show k + 1 - 1 = k from rfl]; omega
  · refine ⟨k + 2, by omega, by omega, ?_, Or.inr ?_⟩
    · rw [e0, Nat.pow_succ, Nat.pow_succ]; omega
    · rw [e0, show k + 2 - 1 = k + 1 from rfl, Nat.pow_succ]; omega
  · refine ⟨k + 2, by omega, by omega, ?_, Or.inr ?_⟩
    · rw [e0, Nat.pow_succ, Nat.pow_succ]; omega
    · rw [e0, show k + 2 - 1 = k + 1 from rfl, Nat.pow_succ]; omega
theorem nlz_zero {x : Int32} (h : x = 0) : own_nlz32 x 32 := by subst h; exact ⟨0, by decide, by decide, by decide, Or.inl rfl⟩
theorem nlz_neg {x : Int32} (h : ¬ (0 : Int32) < x) (h0 : ¬ x = 0) : own_nlz32 x 0 := by
  rw [Int32.lt_iff_toInt_lt, show (0 : Int32).toInt = 0 from rfl] at h
  have hn : x.toInt ≠ 0 := fun q => h0 (Int32.toInt_inj.mp q)
  refine ⟨32, by decide, by decide, x.toBitVec.isLt, Or.inr ?_⟩
  have h' : x.toBitVec.toInt < 0 := by show x.toInt < 0; omega
  rw [BitVec.toInt_eq_toNat_cond] at h'
  split at h' <;> omega
theorem nlz64_lo {x : Int64} {z : Int32} (h : ((x.toUInt64 >>> ((32 : Int32) &&& 0x3f).toInt64.toUInt64).toInt64).toInt32 = 0) (N : own_nlz32 x.toInt32 z) : own_nlz64 x (32 + z) := by
  obtain ⟨b, h1, h2, h3, h4⟩ := N
  have hx : x.toBitVec.toNat < 2 ^ 32 := by
    have e : (((x.toUInt64 >>> ((32 : Int32) &&& 0x3f).toInt64.toUInt64).toInt64).toInt32).toBitVec.toNat = x.toBitVec.toNat / 2 ^ 32 := by
      rw [Int64.toBitVec_toInt32]
      show ((x.toBitVec >>> (((32 : Int32) &&& 0x3f).toInt64.toUInt64.toBitVec % 64)).signExtend 32).toNat = _
      rw [BitVec.signExtend_eq_setWidth_of_le _ (by decide), BitVec.toNat_setWidth]
      have : (((32 : Int32) &&& 0x3f).toInt64.toUInt64.toBitVec % 64) = 32#64 := by decide
      rw [this, BitVec.ushiftRight_eq', BitVec.toNat_ushiftRight, Nat.shiftRight_eq_div_pow]
      have := x.toBitVec.isLt
      exact Nat.mod_eq_of_lt (by rw [show (32#64).toNat = 32 from rfl]; omega)
    rw [h] at e
    have : (0 : Int32).toBitVec.toNat = 0 := rfl
    omega
  have e2 : x.toInt32.toBitVec.toNat = x.toBitVec.toNat := by
    rw [Int64.toBitVec_toInt32, BitVec.signExtend_eq_setWidth_of_le _ (by decide), BitVec.toNat_setWidth, Nat.mod_eq_of_lt hx]
  rw [e2] at h3 h4
  refine ⟨b, by omega, ?_, h3, h4⟩
  rw [Int32.toInt_add, h2, show (32 : Int32).toInt = 32 from rfl, Int.bmod_eq_of_le (by omega) (by omega)]; omega
theorem nlz64_hi {x : Int64} {z : Int32} (h : ¬ ((x.toUInt64 >>> ((32 : Int32) &&& 0x3f).toInt64.toUInt64).toInt64).toInt32 = 0) (N : own_nlz32 ((x.toUInt64 >>> ((32 : Int32) &&& 0x3f).toInt64.toUInt64).toInt64).toInt32 z) : own_nlz64 x z := by
  obtain ⟨b, h1, h2, h3, h4⟩ := N
  have e : (((x.toUInt64 >>> ((32 : Int32) &&& 0x3f).toInt64.toUInt64).toInt64).toInt32).toBitVec.toNat = x.toBitVec.toNat / 2 ^ 32 := by
    rw [Int64.toBitVec_toInt32]
    show ((x.toBitVec >>> (((32 : Int32) &&& 0x3f).toInt64.toUInt64.toBitVec % 64)).signExtend 32).toNat = _
    rw [BitVec.signExtend_eq_setWidth_of_le _ (by decide), BitVec.toNat_setWidth]
    have : (((32 : Int32) &&& 0x3f).toInt64.toUInt64.toBitVec % 64) = 32#64 := by decide
    rw [this, BitVec.ushiftRight_eq', BitVec.toNat_ushiftRight, Nat.shiftRight_eq_div_pow]
    have := x.toBitVec.isLt
    exact Nat.mod_eq_of_lt (by rw [show (32#64).toNat = 32 from rfl]; omega)
  rw [e] at h3 h4
  have hb : b ≠ 0 := fun q => h (Int32.toBitVec_inj.mp (BitVec.eq_of_toNat_eq (by rw [e]; subst q; show _ = 0; omega)))
  rcases h4 with h4 | h4
  · exact absurd h4 hb
  refine ⟨b + 32, by omega, by omega, ?_, Or.inr ?_⟩
  · rw [Nat.pow_add, Nat.mul_comm]; exact Nat.lt_mul_of_div_lt h3 (by decide) |> fun q => by rwa [Nat.mul_comm] at q
  · rw [show b + 32 - 1 = (b - 1) + 32 by omega, Nat.pow_add]
    exact (Nat.le_div_iff_mul_le (by decide)).mp h4
def own_bits (t : Int64) (c : Int32) : Prop := ∃ b : Nat, c.toInt = b ∧ b ≤ 32 ∧ (t - 1).toBitVec.toNat < 2 ^ b ∧ (b = 0 ∨ 2 ^ (b - 1) ≤ (t - 1).toBitVec.toNat)
theorem own_bits_of {t : Int64} {z : Int32} (N : own_nlz64 (t - 1) z) (h : (t - 1).toBitVec.toNat < 2 ^ 32) : ∃ c, 64 - z = c ∧ own_bits t c := by
  obtain ⟨b, h1, h2, h3, h4⟩ := N
  have hb : b ≤ 32 := by
    rcases h4 with rfl | h4
    · omega
    · refine Nat.le_of_not_lt fun q => ?_
      have : 2 ^ 32 ≤ 2 ^ (b - 1) := Nat.pow_le_pow_right (by decide) (by omega)
      omega
  refine ⟨_, rfl, b, ?_, hb, h3, h4⟩
  rw [Int32.toInt_sub, h2, show (64 : Int32).toInt = 64 from rfl, Int.bmod_eq_of_le (by omega) (by omega)]; omega
def own_lay (c0 c1 c2 w2 s2 wd : Int32) : Prop := (¬ (64 : Int32) < c0 + c1 + c2 ∧ w2 = 0 ∧ s2 = c0 + c1 ∧ wd = 1) ∨ ((64 : Int32) < c0 + c1 + c2 ∧ w2 = 1 ∧ s2 = 0 ∧ wd = 2)
abbrev own_mask (c : Int32) : Int64 := ((1 : Int64) <<< (c &&& 0x3f).toInt64) - (1 : Int64)
theorem add_toInt {a b : Int32} {x y : Nat} (ha : a.toInt = x) (hb : b.toInt = y) (h : x + y < 2 ^ 31) : (a + b).toInt = (x + y : Nat) := by
  rw [Int32.toInt_add, ha, hb, Int.bmod_eq_of_le (by omega) (by omega)]; omega
theorem own_le64 {t0 t1 : Int64} {c0 c1 : Int32} (B0 : own_bits t0 c0) (B1 : own_bits t1 c1) : ¬ (64 : Int32) < c0 + c1 := by
  obtain ⟨b0, h0, g0, -⟩ := B0
  obtain ⟨b1, h1, g1, -⟩ := B1
  rw [Int32.lt_iff_toInt_lt, add_toInt h0 h1 (by omega), show (64 : Int32).toInt = 64 from rfl]; omega
theorem own_le64' {t0 : Int64} {c0 : Int32} (B0 : own_bits t0 c0) : ¬ (64 : Int32) < c0 := by
  obtain ⟨b0, h0, g0, -⟩ := B0
  rw [Int32.lt_iff_toInt_lt, h0, show (64 : Int32).toInt = 64 from rfl]; omega
theorem own_final {f0 f1 f2 f3 : Nat → Int64} {j0 j2 : Nat} {c0 c1 c2 w2 s2 wd e0 e1 e2 : Int32} {t0 t1 t2 r0 r1 r2 : Int64} (B0 : own_bits t0 c0) (B1 : own_bits t1 c1) (B2 : own_bits t2 c2) (hl : own_lay c0 c1 c2 w2 s2 wd)
    (h1 : f1 = fun k => if k = j0 then own_set (f0 j0) (own_mask c0) 0 e0 else f0 k) (h2 : f2 = fun k => if k = j0 then own_set (f1 j0) (own_mask c1) c0 e1 else f1 k) (h3 : f3 = fun k => if k = j2 then own_set (f2 j2) (own_mask c2) s2 e2 else f2 k)
    (hj : w2 = 0 → j2 = j0) (hj' : w2 = 1 → j2 ≠ j0) (hr0 : r0.toBitVec.toNat ≤ (t0 - 1).toBitVec.toNat) (hr1 : r1.toBitVec.toNat ≤ (t1 - 1).toBitVec.toNat) (hr2 : r2.toBitVec.toNat ≤ (t2 - 1).toBitVec.toNat) (he0 : e0 = r0.toInt32) (he1 : e1 = r1.toInt32) (he2 : e2 = r2.toInt32) :
    (own_get (f3 j0) (own_mask c0) 0).toInt32 = e0 ∧ (own_get (f3 j0) (own_mask c1) c0).toInt32 = e1 ∧ (own_get (f3 j2) (own_mask c2) s2).toInt32 = e2 := by
  obtain ⟨b0, p0, q0, u0, -⟩ := B0
  obtain ⟨b1, p1, q1, u1, -⟩ := B1
  obtain ⟨b2, p2, q2, u2, -⟩ := B2
  have m0 : ∀ i, i < 64 → bt (own_mask c0) i = decide (i < b0) := fun i hi => bt_mask p0 (by omega) hi
  have m1 : ∀ i, i < 64 → bt (own_mask c1) i = decide (i < b1) := fun i hi => bt_mask p1 (by omega) hi
  have m2 : ∀ i, i < 64 → bt (own_mask c2) i = decide (i < b2) := fun i hi => bt_mask p2 (by omega) hi
  have z0 : (0 : Int32).toInt = (0 : Nat) := rfl
  have s01 := add_toInt p0 p1 (by omega)
  have s012 := add_toInt s01 p2 (by omega)
  have v0 : f1 j0 = own_set (f0 j0) (own_mask c0) 0 e0 := by rw [h1]; simp
  have v1 : f2 j0 = own_set (f1 j0) (own_mask c1) c0 e1 := by rw [h2]; simp
  have v2 : f3 j2 = own_set (f2 j2) (own_mask c2) s2 e2 := by rw [h3]; simp
  rcases hl with ⟨l1, l2, l3, -⟩ | ⟨l1, l2, l3, -⟩
  · obtain rfl := hj l2
    subst l3
    rw [Int32.lt_iff_toInt_lt, s012, show (64 : Int32).toInt = 64 from rfl] at l1
    refine ⟨get_set z0 m0 (by omega) q0 (by omega) he0 (w := f0 j2) fun i i1 i2 => ?_, get_set p0 m1 (by omega) q1 (by omega) he1 (w := f1 j2) fun i i1 i2 => ?_, get_set s01 m2 (by omega) q2 (by omega) he2 (w := f2 j2) fun i i1 i2 => by rw [v2]⟩
    · rw [v2, bt_set s01 m2 (by omega) (by omega), if_neg (by omega), v1, bt_set p0 m1 (by omega) (by omega), if_neg (by omega), v0]
    · rw [v2, bt_set s01 m2 (by omega) (by omega), if_neg (by omega), v1]
  · have hne := hj' l2
    subst l3
    have v3 : f3 j0 = f2 j0 := by rw [h3]; simp [Ne.symm hne]
    refine ⟨get_set z0 m0 (by omega) q0 (by omega) he0 (w := f0 j0) fun i i1 i2 => ?_, get_set p0 m1 (by omega) q1 (by omega) he1 (w := f1 j0) fun i i1 i2 => by rw [v3, v1], get_set z0 m2 (by omega) q2 (by omega) he2 (w := f2 j2) fun i i1 i2 => by rw [v2]⟩
    rw [v3, v1, bt_set p0 m1 (by omega) (by omega), if_neg (by omega), v0]
/-- an array of longs: n places, place j holds f j -/
def LAr (Z : State) (h : Heap) (a : Addr) (n : Nat) (f : Nat → Int64) : Prop := ∃ cl : Cell, Arr Z h a cl .long ∧ cl.slots.size = n ∧ n < 2 ^ 31 ∧ ∀ j, j < n → cl.slots[j]? = some (.long (f j))
section OwnLar
variable {Z : State} {h h' : Heap} {a b : Addr} {n : Nat} {f : Nat → Int64}
theorem LAr_lt (F : LAr Z h a n f) : a < h.size := by obtain ⟨c, A, -⟩ := F; exact A.lt
theorem LAr_ext (F : LAr Z h a n f) (E : Ext h h') : LAr Z h' a n f := by obtain ⟨c, A, r⟩ := F; exact ⟨c, A.ext E, r⟩
theorem LAr_other {sl : Nat} {v : Value} (F : LAr Z h b n f) (W : Wr h h' a sl v) (q : b ≠ a) : LAr Z h' b n f := by obtain ⟨c, A, r⟩ := F; exact ⟨c, A.other W q, r⟩
theorem LAr_keep {ws : List Addr} (F : LAr Z h a n f) (K : Keep h h' ws) (q : a ∉ ws) : LAr Z h' a n f := by obtain ⟨c, A, r⟩ := F; exact ⟨c, ⟨K.2.1 a c A.1 q, A.2⟩, r⟩
theorem nat_clamp {j : Int32} (h0 : 0 ≤ j.toInt) : (j.toNatClampNeg : Int) = j.toInt := by simp only [Int32.toNatClampNeg]; omega
theorem LAr_in (F : LAr Z h a n f) {j : Int32} (h0 : 0 ≤ j.toInt) (h1 : j.toInt < n) : ∃ cl : Cell, Arr Z h a cl .long ∧ ¬ (j < 0 ∨ cl.slots.size ≤ j.toNatClampNeg) ∧ cl.slots[j.toNatClampNeg]? = some (.long (f j.toNatClampNeg)) ∧ cl.slots.size = n ∧ n < 2 ^ 31 ∧ ∀ j, j < n → cl.slots[j]? = some (.long (f j)) := by
  obtain ⟨c, A, S, hn, H⟩ := F
  have hj := nat_clamp h0
  refine ⟨c, A, ?_, H _ (by omega), S, hn, H⟩
  rw [Int32.lt_iff_toInt_lt, show (0 : Int32).toInt = 0 from rfl, S]; omega
theorem LAr_set {cl : Cell} {j : Nat} {v : Int64} (A : Arr Z h a cl .long) (S : cl.slots.size = n) (hn : n < 2 ^ 31) (H : ∀ j, j < n → cl.slots[j]? = some (.long (f j))) (W : Wr h h' a j (.long v)) : LAr Z h' a n (fun k => if k = j then v else f k) := by
  refine ⟨_, A.same W, by rw [sz_set, S], hn, fun k hk => ?_⟩
  show (cl.slots.setIfInBounds j (.long v))[k]? = _
  by_cases q : k = j
  · subst q; simp [S, hk]
  · rw [Array.getElem?_setIfInBounds_ne (Ne.symm q), H k hk]; simp [q]
theorem LAr_of {k : ClassId} {z : Int32} {vs : List Value} {d : Value} (F : Arv Z h a k .long z vs d) (hz : z.toNatClampNeg = n) (hn : n < 2 ^ 31) (hf : ∀ j, j < n → vs.getD j d = .long (f j)) : LAr Z h a n f := by
  obtain ⟨c, A, -, S, -, H, -⟩ := F
  exact ⟨c, A, by rw [S, hz], hn, fun j hj => by rw [H j (by rw [S, hz]; exact hj), hf j hj]⟩
end OwnLar
def own_T (t : Int64) : Prop := t ≠ 0 ∧ 1 ≤ t.toInt ∧ t.toInt ≤ 4294967296 ∧ (t - 1).toBitVec.toNat < 2 ^ 32 ∧ ((t - 1).toBitVec.toNat : Int) = t.toInt - 1
theorem toNat_pos64 {x : Int64} (h : 0 ≤ x.toInt) : (x.toBitVec.toNat : Int) = x.toInt := by
  have h' : 0 ≤ x.toBitVec.toInt := h
  show (x.toBitVec.toNat : Int) = x.toBitVec.toInt
  rw [BitVec.toInt_eq_toNat_cond] at h' ⊢
  split at h' <;> rename_i q
  · rw [if_pos q]
  · omega
theorem own_T_of {x t : Int64} (h0 : 0 ≤ x.toInt) (h1 : x.toInt < 4294967296) (h : t = x + (1 : Int64)) : own_T t := by
  have e1 : t.toInt = x.toInt + 1 := by rw [h, Int64.toInt_add, show (1 : Int64).toInt = 1 from rfl, Int.bmod_eq_of_le (by omega) (by omega)]
  have e2 : (t - 1).toInt = x.toInt := by rw [Int64.toInt_sub, e1, show (1 : Int64).toInt = 1 from rfl, Int.bmod_eq_of_le (by omega) (by omega)]; omega
  have e3 := toNat_pos64 (x := t - 1) (by omega)
  exact ⟨fun q => by rw [q, show (0 : Int64).toInt = 0 from rfl] at e1; omega, by omega, by omega, by omega, by omega⟩
theorem own_m32 (x : Int64) : 0 ≤ (x &&& (4294967295 : Int64)).toInt ∧ (x &&& (4294967295 : Int64)).toInt < 4294967296 := by
  have := c_maskL x 4294967295 32 (by decide) (by decide); omega
theorem own_u32 (x : Int64) : 0 ≤ ((x.toUInt64 >>> ((32 : Int32) &&& 0x3f).toInt64.toUInt64).toInt64).toInt ∧ ((x.toUInt64 >>> ((32 : Int32) &&& 0x3f).toInt64.toUInt64).toInt64).toInt < 4294967296 := by
  have := c_lushr x 32 32 (by decide) (by decide); omega
theorem own_rem {v t : Int64} (h0 : 0 ≤ v.toInt) (T : own_T t) : (v - (v / t) * t).toBitVec.toNat ≤ (t - 1).toBitVec.toNat := by
  obtain ⟨t1, t2, t3, t4, t5⟩ := T
  have e := (c_lrem v t t.toInt rfl).1 h0
  have := Int.emod_nonneg v.toInt (show t.toInt ≠ 0 by omega)
  have := Int.emod_lt_of_pos v.toInt (show 0 < t.toInt by omega)
  have e3 := toNat_pos64 (x := v - (v / t) * t) (by omega)
  omega
theorem own_off (x : Int32) : 0 ≤ (x &&& (3 : Int32)).toInt ∧ (x &&& (3 : Int32)).toInt ≤ 3 := by
  have := c_mask x 3 2 (by decide) (by decide); omega
theorem own_idx {o w : Int32} (h0 : 0 ≤ o.toInt) (h3 : o.toInt ≤ 3) (hw : w = 0 ∨ w = 1) : 0 ≤ (o + w).toInt ∧ (o + w).toInt < (5 : Nat) ∧ (w = 0 → (o + w).toNatClampNeg = (o + 0).toNatClampNeg) ∧ (w = 1 → (o + w).toNatClampNeg ≠ (o + 0).toNatClampNeg) := by
  have e0 : (o + 0).toInt = o.toInt := by rw [Int32.add_zero]
  have e1 : (o + 1).toInt = o.toInt + 1 := by rw [Int32.toInt_add, show (1 : Int32).toInt = 1 from rfl, Int.bmod_eq_of_le (by omega) (by omega)]
  rcases hw with rfl | rfl
  · exact ⟨by omega, by omega, fun _ => rfl, fun q => absurd q (by decide)⟩
  · refine ⟨by omega, by omega, fun q => absurd q (by decide), fun _ => ?_⟩
    simp only [Int32.toNatClampNeg]; omega
theorem own_lay_w {c0 c1 c2 w2 s2 wd : Int32} (h : own_lay c0 c1 c2 w2 s2 wd) : (w2 = 0 ∨ w2 = 1) ∧ (wd = 1 → w2 = 0) := by
  rcases h with ⟨-, h1, -, h2⟩ | ⟨-, h1, -, h2⟩
  · exact ⟨Or.inl h1, fun _ => h1⟩
  · exact ⟨Or.inr h1, fun q => by rw [h2] at q; exact absurd q (by decide)⟩

theorem pd_0 : parseMethodDescriptor "(I)I" = some ⟨[.int], some .int⟩ := by decide +kernel
theorem pd_1 : parseMethodDescriptor "(J)I" = some ⟨[.long], some .int⟩ := by decide +kernel
theorem pd_2 : parseMethodDescriptor "([J)V" = some ⟨[(.array .long)], none⟩ := by decide +kernel
theorem pd_3 : parseMethodDescriptor "([JIII)V" = some ⟨[(.array .long), .int, .int, .int], none⟩ := by decide +kernel
theorem pd_4 : parseMethodDescriptor "([JI[I)V" = some ⟨[(.array .long), .int, (.array .int)], none⟩ := by decide +kernel
theorem d4_0 : decode jdk_33_method_47_code 0 = .ok (.iload_n 0, 1) := by decide +kernel
theorem d4_1 : decode jdk_33_method_47_code 1 = .ok (.ifCond .gt 14, 3) := by decide +kernel
theorem d4_4 : decode jdk_33_method_47_code 4 = .ok (.iload_n 0, 1) := by decide +kernel
theorem d4_5 : decode jdk_33_method_47_code 5 = .ok (.ifCond .ne 8, 3) := by decide +kernel
theorem d4_8 : decode jdk_33_method_47_code 8 = .ok (.bipush 32, 2) := by decide +kernel
theorem d4_10 : decode jdk_33_method_47_code 10 = .ok (.goto 4, 3) := by decide +kernel
theorem d4_13 : decode jdk_33_method_47_code 13 = .ok (.iconst 0, 1) := by decide +kernel
theorem d4_14 : decode jdk_33_method_47_code 14 = .ok (.ireturn, 1) := by decide +kernel
theorem d4_15 : decode jdk_33_method_47_code 15 = .ok (.bipush 31, 2) := by decide +kernel
theorem d4_17 : decode jdk_33_method_47_code 17 = .ok (.istore_n 1, 1) := by decide +kernel
theorem d4_18 : decode jdk_33_method_47_code 18 = .ok (.iload_n 0, 1) := by decide +kernel
theorem d4_19 : decode jdk_33_method_47_code 19 = .ok (.ldc_w 264, 3) := by decide +kernel
theorem d4_22 : decode jdk_33_method_47_code 22 = .ok (.if_icmp .lt 11, 3) := by decide +kernel
theorem d4_25 : decode jdk_33_method_47_code 25 = .ok (.iinc 1 (-16), 3) := by decide +kernel
theorem d4_28 : decode jdk_33_method_47_code 28 = .ok (.iload_n 0, 1) := by decide +kernel
theorem d4_29 : decode jdk_33_method_47_code 29 = .ok (.bipush 16, 2) := by decide +kernel
theorem d4_31 : decode jdk_33_method_47_code 31 = .ok (.iushr, 1) := by decide +kernel
theorem d4_32 : decode jdk_33_method_47_code 32 = .ok (.istore_n 0, 1) := by decide +kernel
theorem d4_33 : decode jdk_33_method_47_code 33 = .ok (.iload_n 0, 1) := by decide +kernel
theorem d4_34 : decode jdk_33_method_47_code 34 = .ok (.sipush 256, 3) := by decide +kernel
theorem d4_37 : decode jdk_33_method_47_code 37 = .ok (.if_icmp .lt 11, 3) := by decide +kernel
theorem d4_40 : decode jdk_33_method_47_code 40 = .ok (.iinc 1 (-8), 3) := by decide +kernel
theorem d4_43 : decode jdk_33_method_47_code 43 = .ok (.iload_n 0, 1) := by decide +kernel
theorem d4_44 : decode jdk_33_method_47_code 44 = .ok (.bipush 8, 2) := by decide +kernel
theorem d4_46 : decode jdk_33_method_47_code 46 = .ok (.iushr, 1) := by decide +kernel
theorem d4_47 : decode jdk_33_method_47_code 47 = .ok (.istore_n 0, 1) := by decide +kernel
theorem d4_48 : decode jdk_33_method_47_code 48 = .ok (.iload_n 0, 1) := by decide +kernel
theorem d4_49 : decode jdk_33_method_47_code 49 = .ok (.bipush 16, 2) := by decide +kernel
theorem d4_51 : decode jdk_33_method_47_code 51 = .ok (.if_icmp .lt 10, 3) := by decide +kernel
theorem d4_54 : decode jdk_33_method_47_code 54 = .ok (.iinc 1 (-4), 3) := by decide +kernel
theorem d4_57 : decode jdk_33_method_47_code 57 = .ok (.iload_n 0, 1) := by decide +kernel
theorem d4_58 : decode jdk_33_method_47_code 58 = .ok (.iconst 4, 1) := by decide +kernel
theorem d4_59 : decode jdk_33_method_47_code 59 = .ok (.iushr, 1) := by decide +kernel
theorem d4_60 : decode jdk_33_method_47_code 60 = .ok (.istore_n 0, 1) := by decide +kernel
theorem d4_61 : decode jdk_33_method_47_code 61 = .ok (.iload_n 0, 1) := by decide +kernel
theorem d4_62 : decode jdk_33_method_47_code 62 = .ok (.iconst 4, 1) := by decide +kernel
theorem d4_63 : decode jdk_33_method_47_code 63 = .ok (.if_icmp .lt 10, 3) := by decide +kernel
theorem d4_66 : decode jdk_33_method_47_code 66 = .ok (.iinc 1 (-2), 3) := by decide +kernel
theorem d4_69 : decode jdk_33_method_47_code 69 = .ok (.iload_n 0, 1) := by decide +kernel
theorem d4_70 : decode jdk_33_method_47_code 70 = .ok (.iconst 2, 1) := by decide +kernel
theorem d4_71 : decode jdk_33_method_47_code 71 = .ok (.iushr, 1) := by decide +kernel
theorem d4_72 : decode jdk_33_method_47_code 72 = .ok (.istore_n 0, 1) := by decide +kernel
theorem d4_73 : decode jdk_33_method_47_code 73 = .ok (.iload_n 1, 1) := by decide +kernel
theorem d4_74 : decode jdk_33_method_47_code 74 = .ok (.iload_n 0, 1) := by decide +kernel
theorem d4_75 : decode jdk_33_method_47_code 75 = .ok (.iconst 1, 1) := by decide +kernel
theorem d4_76 : decode jdk_33_method_47_code 76 = .ok (.iushr, 1) := by decide +kernel
theorem d4_77 : decode jdk_33_method_47_code 77 = .ok (.isub, 1) := by decide +kernel
theorem d4_78 : decode jdk_33_method_47_code 78 = .ok (.ireturn, 1) := by decide +kernel
theorem pn_4 : plainName "java/lang/Integer" = true := by first | (simp [plainName, overriddenIn]; done) | decide +kernel
set_option maxRecDepth 65536 in
set_option maxHeartbeats 40000000 in
theorem rmN32 (l : Launch) (Z : State) (a0 : Array Value) (hw : ∀ d ∈ tables_1, d.before a0 Z = true) (ws : List Jvm.Cond) (p1 : Int32) (h0 : Heap) (n0 : Nat) (O0 : Old Z n0 h0) :
    Ctr l (⟨"java/lang/Integer", "numberOfLeadingZeros", "(I)I"⟩ : MethodName) jdk_33_method_47_code 2 (some .int) ws ({ frames := 0, cells := 0, slots := 0, locals := 0 } : Room) #[(.int p1)] Z h0 (fun v h L => (∃ z, v = some (.int z) ∧ own_nlz32 p1 z) ∧ Fr n0 L ∧ h = h0) := by
  have ef : ∀ m : MethodId, entryFrame m #[(.int p1)] 2 = mkF m 0 #[.val (.int p1), .unset] [] := fun m => by first | (simp [entryFrame, mkF, argsToLocals, Value.category]; done) | rfl
  refine Ctr.of (plainFor_of_name pn_4) ?_
  intro p e s m below meth c s₁ hx hZ hby hml hown0 hnm hret hlk X0 e0
  have hown : s.vm.findClass "java/lang/Integer" = some m.cls := hown0
  have N0 := Fr.nil n0
  refine Go.st (fun t k => castTop (ef m) k) ?_
  show Go p e below _ (s₁.setTop (mkF m 0 #[.val (.int p1), .unset] []))
  refine Go.st (fun _ => XS.iloadN X0.here hx rfl (hb hby d4_0) rfl) ?_
  show Go p e below _ (s₁.setTop (mkF m 1 #[.val (.int p1), .unset] [(.int p1)]))
  by_cases hc1 : (0 : Int32) < p1
  · refine Go.st (fun _ => XS.ifYes X0.here hx rfl (pc0 := 1) (pc' := 15) rfl (hb hby d4_1) rfl ((if0 _ _).trans (tlt hc1).2.2.1) (by decide) (by decide)) ?_
    show Go p e below _ (s₁.setTop (mkF m 15 #[.val (.int p1), .unset] []))
    refine Go.st (fun _ => XS.bipush X0.here hx rfl (hb hby d4_15)) ?_
    show Go p e below _ (s₁.setTop (mkF m 17 #[.val (.int p1), .unset] [(.int (31 : Int32))]))
    refine Go.st (fun _ => XS.istoreN X0.here hx rfl (hb hby d4_17) rfl (l' := #[.val (.int p1), .val (.int (31 : Int32))]) rfl) ?_
    show Go p e below _ (s₁.setTop (mkF m 18 #[.val (.int p1), .val (.int (31 : Int32))] []))
    refine Go.st (fun _ => XS.iloadN X0.here hx rfl (hb hby d4_18) rfl) ?_
    show Go p e below _ (s₁.setTop (mkF m 19 #[.val (.int p1), .val (.int (31 : Int32))] [(.int p1)]))
    refine Go.st (fun _ => X0.ldcwInt hx hown (mvT hZ (hw _ (List.mem_of_getElem? (i := 38) rfl))) (g := (mkF m 19 #[.val (.int p1), .val (.int (31 : Int32))] [(.int p1)])) rfl (hb hby d4_19) _) ?_
    show Go p e below _ (s₁.setTop (mkF m 22 #[.val (.int p1), .val (.int (31 : Int32))] [(.int (65536 : Int32)), (.int p1)]))
    refine goJoin (α := Int32 × Int32) (P := fun z1 => own_nz p1 16 65536 z1.1 z1.2) (F := fun z1 => s₁.setTop (mkF m 33 #[.val (.int z1.1), .val (.int z1.2)] [])) (fun z1 hz1 => ?_) (fun J1 => ?_)
    · obtain ⟨i1, n1⟩ := z1
      have hz1 : own_nz p1 16 65536 i1 n1 := hz1
      show Go p e below _ (s₁.setTop (mkF m 33 #[.val (.int i1), .val (.int n1)] []))
      refine Go.st (fun _ => XS.iloadN X0.here hx rfl (hb hby d4_33) rfl) ?_
      show Go p e below _ (s₁.setTop (mkF m 34 #[.val (.int i1), .val (.int n1)] [(.int i1)]))
      refine Go.st (fun _ => XS.sipush X0.here hx rfl (hb hby d4_34)) ?_
      show Go p e below _ (s₁.setTop (mkF m 37 #[.val (.int i1), .val (.int n1)] [(.int (256 : Int32)), (.int i1)]))
      refine goJoin (α := Int32 × Int32) (P := fun z2 => own_nz p1 24 256 z2.1 z2.2) (F := fun z2 => s₁.setTop (mkF m 48 #[.val (.int z2.1), .val (.int z2.2)] [])) (fun z2 hz2 => ?_) (fun J2 => ?_)
      · obtain ⟨i2, n2⟩ := z2
        have hz2 : own_nz p1 24 256 i2 n2 := hz2
        show Go p e below _ (s₁.setTop (mkF m 48 #[.val (.int i2), .val (.int n2)] []))
        refine Go.st (fun _ => XS.iloadN X0.here hx rfl (hb hby d4_48) rfl) ?_
        show Go p e below _ (s₁.setTop (mkF m 49 #[.val (.int i2), .val (.int n2)] [(.int i2)]))
        refine Go.st (fun _ => XS.bipush X0.here hx rfl (hb hby d4_49)) ?_
        show Go p e below _ (s₁.setTop (mkF m 51 #[.val (.int i2), .val (.int n2)] [(.int (16 : Int32)), (.int i2)]))
        refine goJoin (α := Int32 × Int32) (P := fun z3 => own_nz p1 28 16 z3.1 z3.2) (F := fun z3 => s₁.setTop (mkF m 61 #[.val (.int z3.1), .val (.int z3.2)] [])) (fun z3 hz3 => ?_) (fun J3 => ?_)
        · obtain ⟨i3, n3⟩ := z3
          have hz3 : own_nz p1 28 16 i3 n3 := hz3
          show Go p e below _ (s₁.setTop (mkF m 61 #[.val (.int i3), .val (.int n3)] []))
          refine Go.st (fun _ => XS.iloadN X0.here hx rfl (hb hby d4_61) rfl) ?_
          show Go p e below _ (s₁.setTop (mkF m 62 #[.val (.int i3), .val (.int n3)] [(.int i3)]))
          refine Go.st (fun _ => XS.iconst X0.here hx rfl (hb hby d4_62)) ?_
          show Go p e below _ (s₁.setTop (mkF m 63 #[.val (.int i3), .val (.int n3)] [(.int (4 : Int32)), (.int i3)]))
          refine goJoin (α := Int32 × Int32) (P := fun z4 => own_nz p1 30 4 z4.1 z4.2) (F := fun z4 => s₁.setTop (mkF m 73 #[.val (.int z4.1), .val (.int z4.2)] [])) (fun z4 hz4 => ?_) (fun J4 => ?_)
          · obtain ⟨i4, n4⟩ := z4
            have hz4 : own_nz p1 30 4 i4 n4 := hz4
            show Go p e below _ (s₁.setTop (mkF m 73 #[.val (.int i4), .val (.int n4)] []))
            refine Go.st (fun _ => XS.iloadN X0.here hx rfl (hb hby d4_73) rfl) ?_
            show Go p e below _ (s₁.setTop (mkF m 74 #[.val (.int i4), .val (.int n4)] [(.int n4)]))
            refine Go.st (fun _ => XS.iloadN X0.here hx rfl (hb hby d4_74) rfl) ?_
            show Go p e below _ (s₁.setTop (mkF m 75 #[.val (.int i4), .val (.int n4)] [(.int i4), (.int n4)]))
            refine Go.st (fun _ => XS.iconst X0.here hx rfl (hb hby d4_75)) ?_
            show Go p e below _ (s₁.setTop (mkF m 76 #[.val (.int i4), .val (.int n4)] [(.int (1 : Int32)), (.int i4), (.int n4)]))
            refine Go.st (fun _ => XS.iushr X0.here hx rfl (hb hby d4_76) rfl) ?_
            show Go p e below _ (s₁.setTop (mkF m 77 #[.val (.int i4), .val (.int n4)] [(.int ((i4.toUInt32 >>> ((1 : Int32) &&& 31).toUInt32).toInt32)), (.int n4)]))
            refine Go.st (fun _ => XS.isub X0.here hx rfl (hb hby d4_77) rfl) ?_
            show Go p e below _ (s₁.setTop (mkF m 78 #[.val (.int i4), .val (.int n4)] [(.int (n4 - ((i4.toUInt32 >>> ((1 : Int32) &&& 31).toUInt32).toInt32)))]))
            exact goRetI X0 hx hlk hret e0 (hb hby d4_78) (by decide) (by decide) ⟨⟨_, rfl, nz_end hc1 hz4⟩, N0, rfl⟩
          · show Go p e below _ (s₁.setTop (mkF m 63 #[.val (.int i3), .val (.int n3)] [(.int (4 : Int32)), (.int i3)]))
            by_cases hc2 : i3 < (4 : Int32)
            · refine Go.st (fun _ => XS.icmpYes X0.here hx rfl (pc0 := 63) (pc' := 73) rfl (hb hby d4_63) rfl (tlt hc2).1 (by decide) (by decide)) ?_
              show Go p e below _ (s₁.setTop (mkF m 73 #[.val (.int i3), .val (.int n3)] []))
              exact J4 (i3, n3) (nz_no hz3 hc2 (by decide) (by decide))
            · refine Go.st (fun _ => XS.icmpNo X0.here hx rfl (hb hby d4_63) rfl (flt hc2).1) ?_
              show Go p e below _ (s₁.setTop (mkF m 66 #[.val (.int i3), .val (.int n3)] []))
              refine Go.st (fun _ => XS.iinc X0.here hx rfl (hb hby d4_66) rfl (l' := #[.val (.int i3), .val (.int (n3 + (-2 : Int32)))]) rfl) ?_
              show Go p e below _ (s₁.setTop (mkF m 69 #[.val (.int i3), .val (.int (n3 + (-2 : Int32)))] []))
              refine Go.st (fun _ => XS.iloadN X0.here hx rfl (hb hby d4_69) rfl) ?_
              show Go p e below _ (s₁.setTop (mkF m 70 #[.val (.int i3), .val (.int (n3 + (-2 : Int32)))] [(.int i3)]))
              refine Go.st (fun _ => XS.iconst X0.here hx rfl (hb hby d4_70)) ?_
              show Go p e below _ (s₁.setTop (mkF m 71 #[.val (.int i3), .val (.int (n3 + (-2 : Int32)))] [(.int (2 : Int32)), (.int i3)]))
              refine Go.st (fun _ => XS.iushr X0.here hx rfl (hb hby d4_71) rfl) ?_
              show Go p e below _ (s₁.setTop (mkF m 72 #[.val (.int i3), .val (.int (n3 + (-2 : Int32)))] [(.int ((i3.toUInt32 >>> ((2 : Int32) &&& 31).toUInt32).toInt32))]))
              refine Go.st (fun _ => XS.istoreN X0.here hx rfl (hb hby d4_72) rfl (l' := #[.val (.int ((i3.toUInt32 >>> ((2 : Int32) &&& 31).toUInt32).toInt32)), .val (.int (n3 + (-2 : Int32)))]) rfl) ?_
              show Go p e below _ (s₁.setTop (mkF m 73 #[.val (.int ((i3.toUInt32 >>> ((2 : Int32) &&& 31).toUInt32).toInt32)), .val (.int (n3 + (-2 : Int32)))] []))
              exact J4 (((i3.toUInt32 >>> ((2 : Int32) &&& 31).toUInt32).toInt32), (n3 + (-2 : Int32))) (nz_yes (j := 2) (K := 28) (q := 2) (d := -2) (c := 4) (B' := 4) hz3 hc2 (by decide) (by decide) (by decide) (by decide) (by decide) (by decide) (Or.inr ⟨by decide, by decide⟩) (by decide))
        · show Go p e below _ (s₁.setTop (mkF m 51 #[.val (.int i2), .val (.int n2)] [(.int (16 : Int32)), (.int i2)]))
          by_cases hc3 : i2 < (16 : Int32)
          · refine Go.st (fun _ => XS.icmpYes X0.here hx rfl (pc0 := 51) (pc' := 61) rfl (hb hby d4_51) rfl (tlt hc3).1 (by decide) (by decide)) ?_
            show Go p e below _ (s₁.setTop (mkF m 61 #[.val (.int i2), .val (.int n2)] []))
            exact J3 (i2, n2) (nz_no hz2 hc3 (by decide) (by decide))
          · refine Go.st (fun _ => XS.icmpNo X0.here hx rfl (hb hby d4_51) rfl (flt hc3).1) ?_
            show Go p e below _ (s₁.setTop (mkF m 54 #[.val (.int i2), .val (.int n2)] []))
            refine Go.st (fun _ => XS.iinc X0.here hx rfl (hb hby d4_54) rfl (l' := #[.val (.int i2), .val (.int (n2 + (-4 : Int32)))]) rfl) ?_
            show Go p e below _ (s₁.setTop (mkF m 57 #[.val (.int i2), .val (.int (n2 + (-4 : Int32)))] []))
            refine Go.st (fun _ => XS.iloadN X0.here hx rfl (hb hby d4_57) rfl) ?_
            show Go p e below _ (s₁.setTop (mkF m 58 #[.val (.int i2), .val (.int (n2 + (-4 : Int32)))] [(.int i2)]))
            refine Go.st (fun _ => XS.iconst X0.here hx rfl (hb hby d4_58)) ?_
            show Go p e below _ (s₁.setTop (mkF m 59 #[.val (.int i2), .val (.int (n2 + (-4 : Int32)))] [(.int (4 : Int32)), (.int i2)]))
            refine Go.st (fun _ => XS.iushr X0.here hx rfl (hb hby d4_59) rfl) ?_
            show Go p e below _ (s₁.setTop (mkF m 60 #[.val (.int i2), .val (.int (n2 + (-4 : Int32)))] [(.int ((i2.toUInt32 >>> ((4 : Int32) &&& 31).toUInt32).toInt32))]))
            refine Go.st (fun _ => XS.istoreN X0.here hx rfl (hb hby d4_60) rfl (l' := #[.val (.int ((i2.toUInt32 >>> ((4 : Int32) &&& 31).toUInt32).toInt32)), .val (.int (n2 + (-4 : Int32)))]) rfl) ?_
            show Go p e below _ (s₁.setTop (mkF m 61 #[.val (.int ((i2.toUInt32 >>> ((4 : Int32) &&& 31).toUInt32).toInt32)), .val (.int (n2 + (-4 : Int32)))] []))
            exact J3 (((i2.toUInt32 >>> ((4 : Int32) &&& 31).toUInt32).toInt32), (n2 + (-4 : Int32))) (nz_yes (j := 4) (K := 24) (q := 4) (d := -4) (c := 16) (B' := 16) hz2 hc3 (by decide) (by decide) (by decide) (by decide) (by decide) (by decide) (Or.inr ⟨by decide, by decide⟩) (by decide))
      · show Go p e below _ (s₁.setTop (mkF m 37 #[.val (.int i1), .val (.int n1)] [(.int (256 : Int32)), (.int i1)]))
        by_cases hc4 : i1 < (256 : Int32)
        · refine Go.st (fun _ => XS.icmpYes X0.here hx rfl (pc0 := 37) (pc' := 48) rfl (hb hby d4_37) rfl (tlt hc4).1 (by decide) (by decide)) ?_
          show Go p e below _ (s₁.setTop (mkF m 48 #[.val (.int i1), .val (.int n1)] []))
          exact J2 (i1, n1) (nz_no hz1 hc4 (by decide) (by decide))
        · refine Go.st (fun _ => XS.icmpNo X0.here hx rfl (hb hby d4_37) rfl (flt hc4).1) ?_
          show Go p e below _ (s₁.setTop (mkF m 40 #[.val (.int i1), .val (.int n1)] []))
          refine Go.st (fun _ => XS.iinc X0.here hx rfl (hb hby d4_40) rfl (l' := #[.val (.int i1), .val (.int (n1 + (-8 : Int32)))]) rfl) ?_
          show Go p e below _ (s₁.setTop (mkF m 43 #[.val (.int i1), .val (.int (n1 + (-8 : Int32)))] []))
          refine Go.st (fun _ => XS.iloadN X0.here hx rfl (hb hby d4_43) rfl) ?_
          show Go p e below _ (s₁.setTop (mkF m 44 #[.val (.int i1), .val (.int (n1 + (-8 : Int32)))] [(.int i1)]))
          refine Go.st (fun _ => XS.bipush X0.here hx rfl (hb hby d4_44)) ?_
          show Go p e below _ (s₁.setTop (mkF m 46 #[.val (.int i1), .val (.int (n1 + (-8 : Int32)))] [(.int (8 : Int32)), (.int i1)]))
          refine Go.st (fun _ => XS.iushr X0.here hx rfl (hb hby d4_46) rfl) ?_
          show Go p e below _ (s₁.setTop (mkF m 47 #[.val (.int i1), .val (.int (n1 + (-8 : Int32)))] [(.int ((i1.toUInt32 >>> ((8 : Int32) &&& 31).toUInt32).toInt32))]))
          refine Go.st (fun _ => XS.istoreN X0.here hx rfl (hb hby d4_47) rfl (l' := #[.val (.int ((i1.toUInt32 >>> ((8 : Int32) &&& 31).toUInt32).toInt32)), .val (.int (n1 + (-8 : Int32)))]) rfl) ?_
          show Go p e below _ (s₁.setTop (mkF m 48 #[.val (.int ((i1.toUInt32 >>> ((8 : Int32) &&& 31).toUInt32).toInt32)), .val (.int (n1 + (-8 : Int32)))] []))
          exact J2 (((i1.toUInt32 >>> ((8 : Int32) &&& 31).toUInt32).toInt32), (n1 + (-8 : Int32))) (nz_yes (j := 8) (K := 16) (q := 8) (d := -8) (c := 256) (B' := 256) hz1 hc4 (by decide) (by decide) (by decide) (by decide) (by decide) (by decide) (Or.inr ⟨by decide, by decide⟩) (by decide))
    · show Go p e below _ (s₁.setTop (mkF m 22 #[.val (.int p1), .val (.int (31 : Int32))] [(.int (65536 : Int32)), (.int p1)]))
      by_cases hc5 : p1 < (65536 : Int32)
      · refine Go.st (fun _ => XS.icmpYes X0.here hx rfl (pc0 := 22) (pc' := 33) rfl (hb hby d4_22) rfl (tlt hc5).1 (by decide) (by decide)) ?_
        show Go p e below _ (s₁.setTop (mkF m 33 #[.val (.int p1), .val (.int (31 : Int32))] []))
        exact J1 (p1, (31 : Int32)) (nz_no (nz_start hc1) hc5 (by decide) (by decide))
      · refine Go.st (fun _ => XS.icmpNo X0.here hx rfl (hb hby d4_22) rfl (flt hc5).1) ?_
        show Go p e below _ (s₁.setTop (mkF m 25 #[.val (.int p1), .val (.int (31 : Int32))] []))
        refine Go.st (fun _ => XS.iinc X0.here hx rfl (hb hby d4_25) rfl (l' := #[.val (.int p1), .val (.int (15 : Int32))]) rfl) ?_
        show Go p e below _ (s₁.setTop (mkF m 28 #[.val (.int p1), .val (.int (15 : Int32))] []))
        refine Go.st (fun _ => XS.iloadN X0.here hx rfl (hb hby d4_28) rfl) ?_
        show Go p e below _ (s₁.setTop (mkF m 29 #[.val (.int p1), .val (.int (15 : Int32))] [(.int p1)]))
        refine Go.st (fun _ => XS.bipush X0.here hx rfl (hb hby d4_29)) ?_
        show Go p e below _ (s₁.setTop (mkF m 31 #[.val (.int p1), .val (.int (15 : Int32))] [(.int (16 : Int32)), (.int p1)]))
        refine Go.st (fun _ => XS.iushr X0.here hx rfl (hb hby d4_31) rfl) ?_
        show Go p e below _ (s₁.setTop (mkF m 32 #[.val (.int p1), .val (.int (15 : Int32))] [(.int ((p1.toUInt32 >>> ((16 : Int32) &&& 31).toUInt32).toInt32))]))
        refine Go.st (fun _ => XS.istoreN X0.here hx rfl (hb hby d4_32) rfl (l' := #[.val (.int ((p1.toUInt32 >>> ((16 : Int32) &&& 31).toUInt32).toInt32)), .val (.int (15 : Int32))]) rfl) ?_
        show Go p e below _ (s₁.setTop (mkF m 33 #[.val (.int ((p1.toUInt32 >>> ((16 : Int32) &&& 31).toUInt32).toInt32)), .val (.int (15 : Int32))] []))
        exact J1 (((p1.toUInt32 >>> ((16 : Int32) &&& 31).toUInt32).toInt32), (15 : Int32)) (show own_nz p1 16 65536 ((p1.toUInt32 >>> ((16 : Int32) &&& 31).toUInt32).toInt32) (15 : Int32) from by rw [show (15 : Int32) = 31 + -16 from by decide]; exact nz_yes (j := 16) (K := 0) (q := 16) (d := -16) (c := 65536) (B' := 65536) (nz_start hc1) hc5 (by decide) (by decide) (by decide) (by decide) (by decide) (by decide) (Or.inr ⟨by decide, by decide⟩) (by decide))
  · refine Go.st (fun _ => XS.ifNo X0.here hx rfl (hb hby d4_1) rfl ((if0 _ _).trans (flt hc1).2.2.1)) ?_
    show Go p e below _ (s₁.setTop (mkF m 4 #[.val (.int p1), .unset] []))
    refine Go.st (fun _ => XS.iloadN X0.here hx rfl (hb hby d4_4) rfl) ?_
    show Go p e below _ (s₁.setTop (mkF m 5 #[.val (.int p1), .unset] [(.int p1)]))
    by_cases hc6 : p1 = (0 : Int32)
    · refine Go.st (fun _ => XS.ifNo X0.here hx rfl (hb hby d4_5) rfl ((if0 _ _).trans (teq hc6).2)) ?_
      show Go p e below _ (s₁.setTop (mkF m 8 #[.val (.int p1), .unset] []))
      refine Go.st (fun _ => XS.bipush X0.here hx rfl (hb hby d4_8)) ?_
      show Go p e below _ (s₁.setTop (mkF m 10 #[.val (.int p1), .unset] [(.int (32 : Int32))]))
      refine Go.st (fun _ => XS.goto X0.here hx rfl (pc0 := 10) (pc' := 14) rfl (hb hby d4_10) (by decide) (by decide)) ?_
      show Go p e below _ (s₁.setTop (mkF m 14 #[.val (.int p1), .unset] [(.int (32 : Int32))]))
      exact goRetI X0 hx hlk hret e0 (hb hby d4_14) (by decide) (by decide) ⟨⟨_, rfl, nlz_zero hc6⟩, N0, rfl⟩
    · refine Go.st (fun _ => XS.ifYes X0.here hx rfl (pc0 := 5) (pc' := 13) rfl (hb hby d4_5) rfl ((if0 _ _).trans (feq hc6).2) (by decide) (by decide)) ?_
      show Go p e below _ (s₁.setTop (mkF m 13 #[.val (.int p1), .unset] []))
      refine Go.st (fun _ => XS.iconst X0.here hx rfl (hb hby d4_13)) ?_
      show Go p e below _ (s₁.setTop (mkF m 14 #[.val (.int p1), .unset] [(.int (0 : Int32))]))
      exact goRetI X0 hx hlk hret e0 (hb hby d4_14) (by decide) (by decide) ⟨⟨_, rfl, nlz_neg hc1 hc6⟩, N0, rfl⟩
theorem d3_0 : decode jdk_35_method_48_code 0 = .ok (.lload_n 0, 1) := by decide +kernel
theorem d3_1 : decode jdk_35_method_48_code 1 = .ok (.bipush 32, 2) := by decide +kernel
theorem d3_3 : decode jdk_35_method_48_code 3 = .ok (.lushr, 1) := by decide +kernel
theorem d3_4 : decode jdk_35_method_48_code 4 = .ok (.l2i, 1) := by decide +kernel
theorem d3_5 : decode jdk_35_method_48_code 5 = .ok (.istore_n 2, 1) := by decide +kernel
theorem d3_6 : decode jdk_35_method_48_code 6 = .ok (.iload_n 2, 1) := by decide +kernel
theorem d3_7 : decode jdk_35_method_48_code 7 = .ok (.ifCond .ne 14, 3) := by decide +kernel
theorem d3_10 : decode jdk_35_method_48_code 10 = .ok (.bipush 32, 2) := by decide +kernel
theorem d3_12 : decode jdk_35_method_48_code 12 = .ok (.lload_n 0, 1) := by decide +kernel
theorem d3_13 : decode jdk_35_method_48_code 13 = .ok (.l2i, 1) := by decide +kernel
theorem d3_14 : decode jdk_35_method_48_code 14 = .ok (.invokestatic 308, 3) := by decide +kernel
theorem d3_17 : decode jdk_35_method_48_code 17 = .ok (.iadd, 1) := by decide +kernel
theorem d3_18 : decode jdk_35_method_48_code 18 = .ok (.goto 7, 3) := by decide +kernel
theorem d3_21 : decode jdk_35_method_48_code 21 = .ok (.iload_n 2, 1) := by decide +kernel
theorem d3_22 : decode jdk_35_method_48_code 22 = .ok (.invokestatic 308, 3) := by decide +kernel
theorem d3_25 : decode jdk_35_method_48_code 25 = .ok (.ireturn, 1) := by decide +kernel
theorem pn_3 : plainName "java/lang/Long" = true := by first | (simp [plainName, overriddenIn]; done) | decide +kernel
set_option maxRecDepth 65536 in
set_option maxHeartbeats 40000000 in
theorem rmN64 (l : Launch) (Z : State) (a0 : Array Value) (hw : ∀ d ∈ tables_1, d.before a0 Z = true) (ws : List Jvm.Cond) (q1 : Int64) (h0 : Heap) (n0 : Nat) (O0 : Old Z n0 h0) :
    Ctr l (⟨"java/lang/Long", "numberOfLeadingZeros", "(J)I"⟩ : MethodName) jdk_35_method_48_code 3 (some .int) ws ({ frames := 1, cells := 0, slots := 0, locals := 24 } : Room) #[(.long q1)] Z h0 (fun v h L => (∃ z, v = some (.int z) ∧ own_nlz64 q1 z) ∧ Fr n0 L ∧ h = h0) := by
  have ef : ∀ m : MethodId, entryFrame m #[(.long q1)] 3 = mkF m 0 #[.val (.long q1), .second, .unset] [] := fun m => by first | (simp [entryFrame, mkF, argsToLocals, Value.category]; done) | rfl
  refine Ctr.of (plainFor_of_name pn_3) ?_
  intro p e s m below meth c s₁ hx hZ hby hml hown0 hnm hret hlk X0 e0
  have hown : s.vm.findClass "java/lang/Long" = some m.cls := hown0
  have N0 := Fr.nil n0
  refine Go.st (fun t k => castTop (ef m) k) ?_
  show Go p e below _ (s₁.setTop (mkF m 0 #[.val (.long q1), .second, .unset] []))
  refine Go.st (fun _ => XS.lloadN X0.here hx rfl (hb hby d3_0) rfl) ?_
  show Go p e below _ (s₁.setTop (mkF m 1 #[.val (.long q1), .second, .unset] [(.long q1)]))
  refine Go.st (fun _ => XS.bipush X0.here hx rfl (hb hby d3_1)) ?_
  show Go p e below _ (s₁.setTop (mkF m 3 #[.val (.long q1), .second, .unset] [(.int (32 : Int32)), (.long q1)]))
  refine Go.st (fun _ => XS.lushr X0.here hx rfl (hb hby d3_3) rfl) ?_
  show Go p e below _ (s₁.setTop (mkF m 4 #[.val (.long q1), .second, .unset] [(.long ((q1.toUInt64 >>> ((32 : Int32) &&& 0x3f).toInt64.toUInt64).toInt64))]))
  refine Go.st (fun _ => XS.l2i X0.here hx rfl (hb hby d3_4) rfl) ?_
  show Go p e below _ (s₁.setTop (mkF m 5 #[.val (.long q1), .second, .unset] [(.int (((q1.toUInt64 >>> ((32 : Int32) &&& 0x3f).toInt64.toUInt64).toInt64).toInt32))]))
  refine Go.st (fun _ => XS.istoreN X0.here hx rfl (hb hby d3_5) rfl (l' := #[.val (.long q1), .second, .val (.int (((q1.toUInt64 >>> ((32 : Int32) &&& 0x3f).toInt64.toUInt64).toInt64).toInt32))]) rfl) ?_
  show Go p e below _ (s₁.setTop (mkF m 6 #[.val (.long q1), .second, .val (.int (((q1.toUInt64 >>> ((32 : Int32) &&& 0x3f).toInt64.toUInt64).toInt64).toInt32))] []))
  refine Go.st (fun _ => XS.iloadN X0.here hx rfl (hb hby d3_6) rfl) ?_
  show Go p e below _ (s₁.setTop (mkF m 7 #[.val (.long q1), .second, .val (.int (((q1.toUInt64 >>> ((32 : Int32) &&& 0x3f).toInt64.toUInt64).toInt64).toInt32))] [(.int (((q1.toUInt64 >>> ((32 : Int32) &&& 0x3f).toInt64.toUInt64).toInt64).toInt32))]))
  by_cases hc1 : (((q1.toUInt64 >>> ((32 : Int32) &&& 0x3f).toInt64.toUInt64).toInt64).toInt32) = (0 : Int32)
  · refine Go.st (fun _ => XS.ifNo X0.here hx rfl (hb hby d3_7) rfl ((if0 _ _).trans (teq hc1).2)) ?_
    show Go p e below _ (s₁.setTop (mkF m 10 #[.val (.long q1), .second, .val (.int (((q1.toUInt64 >>> ((32 : Int32) &&& 0x3f).toInt64.toUInt64).toInt64).toInt32))] []))
    refine Go.st (fun _ => XS.bipush X0.here hx rfl (hb hby d3_10)) ?_
    show Go p e below _ (s₁.setTop (mkF m 12 #[.val (.long q1), .second, .val (.int (((q1.toUInt64 >>> ((32 : Int32) &&& 0x3f).toInt64.toUInt64).toInt64).toInt32))] [(.int (32 : Int32))]))
    refine Go.st (fun _ => XS.lloadN X0.here hx rfl (hb hby d3_12) rfl) ?_
    show Go p e below _ (s₁.setTop (mkF m 13 #[.val (.long q1), .second, .val (.int (((q1.toUInt64 >>> ((32 : Int32) &&& 0x3f).toInt64.toUInt64).toInt64).toInt32))] [(.long q1), (.int (32 : Int32))]))
    refine Go.st (fun _ => XS.l2i X0.here hx rfl (hb hby d3_13) rfl) ?_
    show Go p e below _ (s₁.setTop (mkF m 14 #[.val (.long q1), .second, .val (.int (((q1.toUInt64 >>> ((32 : Int32) &&& 0x3f).toInt64.toUInt64).toInt64).toInt32))] [(.int (q1.toInt32)), (.int (32 : Int32))]))
    refine goCallS X0 hx hZ (y := (⟨"java/lang/Integer", "numberOfLeadingZeros", "(I)I"⟩ : MethodName)) hown (hw _ (List.mem_of_getElem? (i := 34) rfl)) (hw _ (List.mem_of_getElem? (i := 35) rfl)) (hw _ (List.mem_of_getElem? (i := 36) rfl)) (hw _ (List.mem_of_getElem? (i := 37) rfl)) (by decide) (argsL := [(.int (q1.toInt32))]) (rest := [(.int (32 : Int32))]) e0 (rmN32 l Z a0 hw [] (q1.toInt32) h0 n0 O0) 1 (by decide) (by decide) (by decide) (by decide) (mkF m 14 #[.val (.long q1), .second, .val (.int (((q1.toUInt64 >>> ((32 : Int32) &&& 0x3f).toInt64.toUInt64).toInt64).toInt32))] [(.int (q1.toInt32)), (.int (32 : Int32))]) rfl (by rw [hml]; rfl) (lenOf pd_0 rfl) rfl (hb hby d3_14) (Nat.le_of_eq rfl) ?_
    intro v2 T2 L2 X2 hQ2
    obtain ⟨⟨z2, rfl, hN2⟩, M2, e2⟩ := hQ2
    have N2 := Fr.app N0 M2
    show Go p e below _ (T2.setTop (mkF m 17 #[.val (.long q1), .second, .val (.int (((q1.toUInt64 >>> ((32 : Int32) &&& 0x3f).toInt64.toUInt64).toInt64).toInt32))] [(.int z2), (.int (32 : Int32))]))
    refine Go.st (fun _ => XS.iadd X2.here hx rfl (hb hby d3_17) rfl) ?_
    show Go p e below _ (T2.setTop (mkF m 18 #[.val (.long q1), .second, .val (.int (((q1.toUInt64 >>> ((32 : Int32) &&& 0x3f).toInt64.toUInt64).toInt64).toInt32))] [(.int ((32 : Int32) + z2))]))
    refine Go.st (fun _ => XS.goto X2.here hx rfl (pc0 := 18) (pc' := 25) rfl (hb hby d3_18) (by decide) (by decide)) ?_
    show Go p e below _ (T2.setTop (mkF m 25 #[.val (.long q1), .second, .val (.int (((q1.toUInt64 >>> ((32 : Int32) &&& 0x3f).toInt64.toUInt64).toInt64).toInt32))] [(.int ((32 : Int32) + z2))]))
    exact goRetI X2 hx hlk hret e2 (hb hby d3_25) (by decide) (by decide) ⟨⟨_, rfl, nlz64_lo hc1 hN2⟩, N2, rfl⟩
  · refine Go.st (fun _ => XS.ifYes X0.here hx rfl (pc0 := 7) (pc' := 21) rfl (hb hby d3_7) rfl ((if0 _ _).trans (feq hc1).2) (by decide) (by decide)) ?_
    show Go p e below _ (s₁.setTop (mkF m 21 #[.val (.long q1), .second, .val (.int (((q1.toUInt64 >>> ((32 : Int32) &&& 0x3f).toInt64.toUInt64).toInt64).toInt32))] []))
    refine Go.st (fun _ => XS.iloadN X0.here hx rfl (hb hby d3_21) rfl) ?_
    show Go p e below _ (s₁.setTop (mkF m 22 #[.val (.long q1), .second, .val (.int (((q1.toUInt64 >>> ((32 : Int32) &&& 0x3f).toInt64.toUInt64).toInt64).toInt32))] [(.int (((q1.toUInt64 >>> ((32 : Int32) &&& 0x3f).toInt64.toUInt64).toInt64).toInt32))]))
    refine goCallS X0 hx hZ (y := (⟨"java/lang/Integer", "numberOfLeadingZeros", "(I)I"⟩ : MethodName)) hown (hw _ (List.mem_of_getElem? (i := 34) rfl)) (hw _ (List.mem_of_getElem? (i := 35) rfl)) (hw _ (List.mem_of_getElem? (i := 36) rfl)) (hw _ (List.mem_of_getElem? (i := 37) rfl)) (by decide) (argsL := [(.int (((q1.toUInt64 >>> ((32 : Int32) &&& 0x3f).toInt64.toUInt64).toInt64).toInt32))]) (rest := []) e0 (rmN32 l Z a0 hw [] (((q1.toUInt64 >>> ((32 : Int32) &&& 0x3f).toInt64.toUInt64).toInt64).toInt32) h0 n0 O0) 0 (by decide) (by decide) (by decide) (by decide) (mkF m 22 #[.val (.long q1), .second, .val (.int (((q1.toUInt64 >>> ((32 : Int32) &&& 0x3f).toInt64.toUInt64).toInt64).toInt32))] [(.int (((q1.toUInt64 >>> ((32 : Int32) &&& 0x3f).toInt64.toUInt64).toInt64).toInt32))]) rfl (by rw [hml]; rfl) (lenOf pd_0 rfl) rfl (hb hby d3_22) (Nat.le_of_eq rfl) ?_
    intro v3 T3 L3 X3 hQ3
    obtain ⟨⟨z3, rfl, hN3⟩, M3, e3⟩ := hQ3
    have N3 := Fr.app N0 M3
    show Go p e below _ (T3.setTop (mkF m 25 #[.val (.long q1), .second, .val (.int (((q1.toUInt64 >>> ((32 : Int32) &&& 0x3f).toInt64.toUInt64).toInt64).toInt32))] [(.int z3)]))
    exact goRetI X3 hx hlk hret e3 (hb hby d3_25) (by decide) (by decide) ⟨⟨_, rfl, nlz64_hi hc1 hN3⟩, N3, rfl⟩
theorem d1_0 : decode prog_137_method_1_code 0 = .ok (.aload_n 0, 1) := by decide +kernel
theorem d1_1 : decode prog_137_method_1_code 1 = .ok (.invokespecial 3, 3) := by decide +kernel
theorem d1_4 : decode prog_137_method_1_code 4 = .ok (.aload_n 0, 1) := by decide +kernel
theorem d1_5 : decode prog_137_method_1_code 5 = .ok (.iconst 1, 1) := by decide +kernel
theorem d1_6 : decode prog_137_method_1_code 6 = .ok (.anewarray 9, 3) := by decide +kernel
theorem d1_9 : decode prog_137_method_1_code 9 = .ok (.putfield 11, 3) := by decide +kernel
theorem d1_12 : decode prog_137_method_1_code 12 = .ok (.aload_n 0, 1) := by decide +kernel
theorem d1_13 : decode prog_137_method_1_code 13 = .ok (.iconst 4, 1) := by decide +kernel
theorem d1_14 : decode prog_137_method_1_code 14 = .ok (.putfield 15, 3) := by decide +kernel
theorem d1_17 : decode prog_137_method_1_code 17 = .ok (.aload_n 0, 1) := by decide +kernel
theorem d1_18 : decode prog_137_method_1_code 18 = .ok (.iconst 1, 1) := by decide +kernel
theorem d1_19 : decode prog_137_method_1_code 19 = .ok (.aload_n 0, 1) := by decide +kernel
theorem d1_20 : decode prog_137_method_1_code 20 = .ok (.getfield 15, 3) := by decide +kernel
theorem d1_23 : decode prog_137_method_1_code 23 = .ok (.ishl, 1) := by decide +kernel
theorem d1_24 : decode prog_137_method_1_code 24 = .ok (.newarray .int, 2) := by decide +kernel
theorem d1_26 : decode prog_137_method_1_code 26 = .ok (.putfield 19, 3) := by decide +kernel
theorem d1_29 : decode prog_137_method_1_code 29 = .ok (.aload_n 0, 1) := by decide +kernel
theorem d1_30 : decode prog_137_method_1_code 30 = .ok (.bipush 16, 2) := by decide +kernel
theorem d1_32 : decode prog_137_method_1_code 32 = .ok (.newarray .long, 2) := by decide +kernel
theorem d1_34 : decode prog_137_method_1_code 34 = .ok (.putfield 23, 3) := by decide +kernel
theorem d1_37 : decode prog_137_method_1_code 37 = .ok (.aload_n 0, 1) := by decide +kernel
theorem d1_38 : decode prog_137_method_1_code 38 = .ok (.bipush 16, 2) := by decide +kernel
theorem d1_40 : decode prog_137_method_1_code 40 = .ok (.newarray .int, 2) := by decide +kernel
theorem d1_42 : decode prog_137_method_1_code 42 = .ok (.putfield 26, 3) := by decide +kernel
theorem d1_45 : decode prog_137_method_1_code 45 = .ok (.aload_n 0, 1) := by decide +kernel
theorem d1_46 : decode prog_137_method_1_code 46 = .ok (.aload_n 1, 1) := by decide +kernel
theorem d1_47 : decode prog_137_method_1_code 47 = .ok (.arraylength, 1) := by decide +kernel
theorem d1_48 : decode prog_137_method_1_code 48 = .ok (.newarray .int, 2) := by decide +kernel
theorem d1_50 : decode prog_137_method_1_code 50 = .ok (.putfield 29, 3) := by decide +kernel
theorem d1_53 : decode prog_137_method_1_code 53 = .ok (.aload_n 0, 1) := by decide +kernel
theorem d1_54 : decode prog_137_method_1_code 54 = .ok (.aload_n 1, 1) := by decide +kernel
theorem d1_55 : decode prog_137_method_1_code 55 = .ok (.arraylength, 1) := by decide +kernel
theorem d1_56 : decode prog_137_method_1_code 56 = .ok (.newarray .int, 2) := by decide +kernel
theorem d1_58 : decode prog_137_method_1_code 58 = .ok (.putfield 32, 3) := by decide +kernel
theorem d1_61 : decode prog_137_method_1_code 61 = .ok (.aload_n 0, 1) := by decide +kernel
theorem d1_62 : decode prog_137_method_1_code 62 = .ok (.aload_n 1, 1) := by decide +kernel
theorem d1_63 : decode prog_137_method_1_code 63 = .ok (.arraylength, 1) := by decide +kernel
theorem d1_64 : decode prog_137_method_1_code 64 = .ok (.newarray .long, 2) := by decide +kernel
theorem d1_66 : decode prog_137_method_1_code 66 = .ok (.putfield 35, 3) := by decide +kernel
theorem d1_69 : decode prog_137_method_1_code 69 = .ok (.iconst 1, 1) := by decide +kernel
theorem d1_70 : decode prog_137_method_1_code 70 = .ok (.istore_n 2, 1) := by decide +kernel
theorem d1_71 : decode prog_137_method_1_code 71 = .ok (.iconst 0, 1) := by decide +kernel
theorem d1_72 : decode prog_137_method_1_code 72 = .ok (.istore_n 3, 1) := by decide +kernel
theorem d1_73 : decode prog_137_method_1_code 73 = .ok (.iconst 0, 1) := by decide +kernel
theorem d1_74 : decode prog_137_method_1_code 74 = .ok (.istore 4, 2) := by decide +kernel
theorem d1_76 : decode prog_137_method_1_code 76 = .ok (.iload 4, 2) := by decide +kernel
theorem d1_78 : decode prog_137_method_1_code 78 = .ok (.aload_n 1, 1) := by decide +kernel
theorem d1_79 : decode prog_137_method_1_code 79 = .ok (.arraylength, 1) := by decide +kernel
theorem d1_80 : decode prog_137_method_1_code 80 = .ok (.if_icmp .ge 73, 3) := by decide +kernel
theorem d1_83 : decode prog_137_method_1_code 83 = .ok (.bipush 64, 2) := by decide +kernel
theorem d1_85 : decode prog_137_method_1_code 85 = .ok (.aload_n 1, 1) := by decide +kernel
theorem d1_86 : decode prog_137_method_1_code 86 = .ok (.iload 4, 2) := by decide +kernel
theorem d1_88 : decode prog_137_method_1_code 88 = .ok (.laload, 1) := by decide +kernel
theorem d1_89 : decode prog_137_method_1_code 89 = .ok (.lconst 1, 1) := by decide +kernel
theorem d1_90 : decode prog_137_method_1_code 90 = .ok (.lsub, 1) := by decide +kernel
theorem d1_91 : decode prog_137_method_1_code 91 = .ok (.invokestatic 40, 3) := by decide +kernel
theorem d1_94 : decode prog_137_method_1_code 94 = .ok (.isub, 1) := by decide +kernel
theorem d1_95 : decode prog_137_method_1_code 95 = .ok (.istore 5, 2) := by decide +kernel
theorem d1_97 : decode prog_137_method_1_code 97 = .ok (.iload_n 3, 1) := by decide +kernel
theorem d1_98 : decode prog_137_method_1_code 98 = .ok (.iload 5, 2) := by decide +kernel
theorem d1_100 : decode prog_137_method_1_code 100 = .ok (.iadd, 1) := by decide +kernel
theorem d1_101 : decode prog_137_method_1_code 101 = .ok (.bipush 64, 2) := by decide +kernel
theorem d1_103 : decode prog_137_method_1_code 103 = .ok (.if_icmp .le 8, 3) := by decide +kernel
theorem d1_106 : decode prog_137_method_1_code 106 = .ok (.iinc 2 1, 3) := by decide +kernel
theorem d1_109 : decode prog_137_method_1_code 109 = .ok (.iconst 0, 1) := by decide +kernel
theorem d1_110 : decode prog_137_method_1_code 110 = .ok (.istore_n 3, 1) := by decide +kernel
theorem d1_111 : decode prog_137_method_1_code 111 = .ok (.aload_n 0, 1) := by decide +kernel
theorem d1_112 : decode prog_137_method_1_code 112 = .ok (.getfield 29, 3) := by decide +kernel
theorem d1_115 : decode prog_137_method_1_code 115 = .ok (.iload 4, 2) := by decide +kernel
theorem d1_117 : decode prog_137_method_1_code 117 = .ok (.iload_n 2, 1) := by decide +kernel
theorem d1_118 : decode prog_137_method_1_code 118 = .ok (.iconst 1, 1) := by decide +kernel
theorem d1_119 : decode prog_137_method_1_code 119 = .ok (.isub, 1) := by decide +kernel
theorem d1_120 : decode prog_137_method_1_code 120 = .ok (.iastore, 1) := by decide +kernel
theorem d1_121 : decode prog_137_method_1_code 121 = .ok (.aload_n 0, 1) := by decide +kernel
theorem d1_122 : decode prog_137_method_1_code 122 = .ok (.getfield 32, 3) := by decide +kernel
theorem d1_125 : decode prog_137_method_1_code 125 = .ok (.iload 4, 2) := by decide +kernel
theorem d1_127 : decode prog_137_method_1_code 127 = .ok (.iload_n 3, 1) := by decide +kernel
theorem d1_128 : decode prog_137_method_1_code 128 = .ok (.iastore, 1) := by decide +kernel
theorem d1_129 : decode prog_137_method_1_code 129 = .ok (.aload_n 0, 1) := by decide +kernel
theorem d1_130 : decode prog_137_method_1_code 130 = .ok (.getfield 35, 3) := by decide +kernel
theorem d1_133 : decode prog_137_method_1_code 133 = .ok (.iload 4, 2) := by decide +kernel
theorem d1_135 : decode prog_137_method_1_code 135 = .ok (.lconst 1, 1) := by decide +kernel
theorem d1_136 : decode prog_137_method_1_code 136 = .ok (.iload 5, 2) := by decide +kernel
theorem d1_138 : decode prog_137_method_1_code 138 = .ok (.lshl, 1) := by decide +kernel
theorem d1_139 : decode prog_137_method_1_code 139 = .ok (.lconst 1, 1) := by decide +kernel
theorem d1_140 : decode prog_137_method_1_code 140 = .ok (.lsub, 1) := by decide +kernel
theorem d1_141 : decode prog_137_method_1_code 141 = .ok (.lastore, 1) := by decide +kernel
theorem d1_142 : decode prog_137_method_1_code 142 = .ok (.iload_n 3, 1) := by decide +kernel
theorem d1_143 : decode prog_137_method_1_code 143 = .ok (.iload 5, 2) := by decide +kernel
theorem d1_145 : decode prog_137_method_1_code 145 = .ok (.iadd, 1) := by decide +kernel
theorem d1_146 : decode prog_137_method_1_code 146 = .ok (.istore_n 3, 1) := by decide +kernel
theorem d1_147 : decode prog_137_method_1_code 147 = .ok (.iinc 4 1, 3) := by decide +kernel
theorem d1_150 : decode prog_137_method_1_code 150 = .ok (.goto (-74), 3) := by decide +kernel
theorem d1_153 : decode prog_137_method_1_code 153 = .ok (.aload_n 0, 1) := by decide +kernel
theorem d1_154 : decode prog_137_method_1_code 154 = .ok (.iload_n 2, 1) := by decide +kernel
theorem d1_155 : decode prog_137_method_1_code 155 = .ok (.putfield 44, 3) := by decide +kernel
theorem d1_158 : decode prog_137_method_1_code 158 = .ok (.return_, 1) := by decide +kernel
theorem pn_1 : plainName "com/example/gieres/gieres/model/TupleTable" = true := by first | (simp [plainName, overriddenIn]; done) | decide +kernel
set_option maxRecDepth 65536 in
set_option maxHeartbeats 40000000 in
theorem rmTT (l : Launch) (Z : State) (a0 : Array Value) (hw : ∀ d ∈ tables_1, d.before a0 Z = true) (ws : List Jvm.Cond) (a1 a2 : Addr) (ka2 : ClassId) (t0 t1 t2 : Int64) (h0 : Heap) (n0 : Nat) (O0 : Old Z n0 h0) (A1 : Exa Z h0 a1 "com/example/gieres/gieres/model/TupleTable") (F_pages : Fld Z h0 a1 "com/example/gieres/gieres/model/TupleTable" "pages" "[[J" .null) (F_slotBits : Fld Z h0 a1 "com/example/gieres/gieres/model/TupleTable" "slotBits" "I" (.int (0 : Int32))) (F_slots : Fld Z h0 a1 "com/example/gieres/gieres/model/TupleTable" "slots" "[I" .null) (F_hashes : Fld Z h0 a1 "com/example/gieres/gieres/model/TupleTable" "hashes" "[J" .null) (F_found : Fld Z h0 a1 "com/example/gieres/gieres/model/TupleTable" "found" "[I" .null) (F_word : Fld Z h0 a1 "com/example/gieres/gieres/model/TupleTable" "word" "[I" .null) (F_shift : Fld Z h0 a1 "com/example/gieres/gieres/model/TupleTable" "shift" "[I" .null) (F_mask : Fld Z h0 a1 "com/example/gieres/gieres/model/TupleTable" "mask" "[J" .null) (F_width : Fld Z h0 a1 "com/example/gieres/gieres/model/TupleTable" "width" "I" (.int (0 : Int32))) (g1 : n0 ≤ a1) (V2 : Arv Z h0 a2 ka2 .long (3 : Int32) [(.long t0), (.long t1), (.long t2)] (.long (0 : Int64))) (ne21 : a2 ≠ a1) (ht0 : (t0 - 1).toBitVec.toNat < 2 ^ 32) (ht1 : (t1 - 1).toBitVec.toNat < 2 ^ 32) (ht2 : (t2 - 1).toBitVec.toNat < 2 ^ 32) :
    Ctr l (⟨"com/example/gieres/gieres/model/TupleTable", "<init>", "([J)V"⟩ : MethodName) prog_137_method_1_code 6 none ws ({ frames := 2, cells := 7, slots := 58, locals := 64 } : Room) #[(.ref a1), (.ref a2)] Z h0 (fun v h L => v = none ∧ Fr n0 L ∧ Keep h0 h [a1] ∧ ∃ (c0 c1 c2 w2 s2 wd : Int32) (aw as am : Addr) (kw ks km : ClassId), own_bits t0 c0 ∧ own_bits t1 c1 ∧ own_bits t2 c2 ∧ own_lay c0 c1 c2 w2 s2 wd ∧ Fld Z h a1 "com/example/gieres/gieres/model/TupleTable" "word" "[I" (.ref aw) ∧ Arv Z h aw kw .int (3 : Int32) [(.int (0 : Int32)), (.int (0 : Int32)), (.int w2)] (.int (0 : Int32)) ∧ Fld Z h a1 "com/example/gieres/gieres/model/TupleTable" "shift" "[I" (.ref as) ∧ Arv Z h as ks .int (3 : Int32) [(.int (0 : Int32)), (.int c0), (.int s2)] (.int (0 : Int32)) ∧ Fld Z h a1 "com/example/gieres/gieres/model/TupleTable" "mask" "[J" (.ref am) ∧ Arv Z h am km .long (3 : Int32) [(.long (own_mask c0)), (.long (own_mask c1)), (.long (own_mask c2))] (.long (0 : Int64)) ∧ Fld Z h a1 "com/example/gieres/gieres/model/TupleTable" "width" "I" (.int wd)) := by
  have ef : ∀ m : MethodId, entryFrame m #[(.ref a1), (.ref a2)] 6 = mkF m 0 #[.val (.ref a1), .val (.ref a2), .unset, .unset, .unset, .unset] [] := fun m => by first | (simp [entryFrame, mkF, argsToLocals, Value.category]; done) | rfl
  refine Ctr.of (plainFor_of_name pn_1) ?_
  intro p e s m below meth c s₁ hx hZ hby hml hown0 hnm hret hlk X0 e0
  have hown : s.vm.findClass "com/example/gieres/gieres/model/TupleTable" = some m.cls := hown0
  have N0 := Fr.nil n0
  refine Go.st (fun t k => castTop (ef m) k) ?_
  show Go p e below _ (s₁.setTop (mkF m 0 #[.val (.ref a1), .val (.ref a2), .unset, .unset, .unset, .unset] []))
  refine Go.st (fun _ => XS.aloadN X0.here hx rfl (hb hby d1_0) rfl rfl) ?_
  show Go p e below _ (s₁.setTop (mkF m 1 #[.val (.ref a1), .val (.ref a2), .unset, .unset, .unset, .unset] [(.ref a1)]))
  obtain ⟨T1, X1, e1, st1⟩ := initO X0 hx hZ hown (hw _ (List.mem_of_getElem? (i := 8) rfl)) (hw _ (List.mem_of_getElem? (i := 9) rfl)) (hw _ (List.mem_of_getElem? (i := 10) rfl)) e0 (g := (mkF m 1 #[.val (.ref a1), .val (.ref a2), .unset, .unset, .unset, .unset] [(.ref a1)])) rfl (by rw [hml]; rfl) rfl (hb hby d1_1) (by decide) (W := 0) (by show 2 * 0 + _ ≤ _; exact Nat.le_of_eq rfl) (by decide)
  refine Go.st st1 ?_
  show Go p e below _ (T1.setTop (mkF m 4 #[.val (.ref a1), .val (.ref a2), .unset, .unset, .unset, .unset] []))
  refine Go.st (fun _ => XS.aloadN X1.here hx rfl (hb hby d1_4) rfl rfl) ?_
  show Go p e below _ (T1.setTop (mkF m 5 #[.val (.ref a1), .val (.ref a2), .unset, .unset, .unset, .unset] [(.ref a1)]))
  refine Go.st (fun _ => XS.iconst X1.here hx rfl (hb hby d1_5)) ?_
  show Go p e below _ (T1.setTop (mkF m 6 #[.val (.ref a1), .val (.ref a2), .unset, .unset, .unset, .unset] [(.int (1 : Int32)), (.ref a1)]))
  obtain ⟨T2, h2, k2, X2, e2, E2, A2, B2, O2, st2⟩ := newRA X1 hx hZ hown rfl (hw _ (List.mem_of_getElem? (i := 11) rfl)) (hw _ (List.mem_of_getElem? (i := 12) rfl)) e1 (g := (mkF m 6 #[.val (.ref a1), .val (.ref a2), .unset, .unset, .unset, .unset] [(.int (1 : Int32)), (.ref a1)])) rfl (hb hby d1_6) rfl (by decide) (cap := 1) (by decide) (by decide) (by decide) (by decide) (ad := "[[J") rfl
  obtain ⟨b2, g2⟩ : ∃ z, z = h0.size := ⟨_, rfl⟩
  rw [← g2] at A2 st2 B2
  refine Go.st st2 ?_
  have gn2 : n0 ≤ b2 := oldGe O0 g2
  have sz2 : h0.size ≤ b2 := Nat.le_trans (Keep.refl h0 [a1]).1 (Nat.le_of_eq g2.symm)
  have ne3 : a1 ≠ b2 := Nat.ne_of_lt (Nat.lt_of_lt_of_le A1.lt (Nat.le_of_eq g2.symm))
  have ne4 : a2 ≠ b2 := Nat.ne_of_lt (Nat.lt_of_lt_of_le V2.lt (Nat.le_of_eq g2.symm))
  have O5 : Old Z n0 h2 := O0.ext E2
  have E_6 : Exa Z h2 a1 "com/example/gieres/gieres/model/TupleTable" := A1.ext E2
  have F7 : Fld Z h2 a1 "com/example/gieres/gieres/model/TupleTable" "pages" "[[J" .null := F_pages.ext E2
  have F8 : Fld Z h2 a1 "com/example/gieres/gieres/model/TupleTable" "slotBits" "I" (.int (0 : Int32)) := F_slotBits.ext E2
  have F9 : Fld Z h2 a1 "com/example/gieres/gieres/model/TupleTable" "slots" "[I" .null := F_slots.ext E2
  have F10 : Fld Z h2 a1 "com/example/gieres/gieres/model/TupleTable" "hashes" "[J" .null := F_hashes.ext E2
  have F11 : Fld Z h2 a1 "com/example/gieres/gieres/model/TupleTable" "found" "[I" .null := F_found.ext E2
  have F12 : Fld Z h2 a1 "com/example/gieres/gieres/model/TupleTable" "word" "[I" .null := F_word.ext E2
  have F13 : Fld Z h2 a1 "com/example/gieres/gieres/model/TupleTable" "shift" "[I" .null := F_shift.ext E2
  have F14 : Fld Z h2 a1 "com/example/gieres/gieres/model/TupleTable" "mask" "[J" .null := F_mask.ext E2
  have F15 : Fld Z h2 a1 "com/example/gieres/gieres/model/TupleTable" "width" "I" (.int (0 : Int32)) := F_width.ext E2
  have V_16 : Arv Z h2 a2 ka2 .long (3 : Int32) [(.long t0), (.long t1), (.long t2)] (.long (0 : Int64)) := V2.ext E2
  have K17 : Keep h0 h2 [a1] := (Keep.refl h0 [a1]).ext E2
  have V_18 : Arv Z h2 b2 k2 (.array .long) (1 : Int32) [.null] .null := (Arv.new A2 (by decide)).pad (pad_rep [] .null 1)
  show Go p e below _ (T2.setTop (mkF m 9 #[.val (.ref a1), .val (.ref a2), .unset, .unset, .unset, .unset] [(.ref b2), (.ref a1)]))
  obtain ⟨T19, h19, X19, e19, W19, st19⟩ := putF X2 hx hZ hown (host := "") (Or.inl (hw _ (List.mem_of_getElem? (i := 13) rfl))) Via.refl e2 F7 E_6 (Or.inl (hw _ (List.mem_of_getElem? (i := 14) rfl))) (hw _ (List.mem_of_getElem? (i := 2) rfl)) (ty := (.array (.array .long))) (by decide) rfl rfl (g := (mkF m 9 #[.val (.ref a1), .val (.ref a2), .unset, .unset, .unset, .unset] [(.ref b2), (.ref a1)])) rfl rfl (hb hby d1_9)
  refine Go.st st19 ?_
  have O20 : Old Z n0 h19 := O5.wr W19 g1
  have E_21 : Exa Z h19 a1 "com/example/gieres/gieres/model/TupleTable" := E_6.wr W19
  have F22 : Fld Z h19 a1 "com/example/gieres/gieres/model/TupleTable" "slotBits" "I" (.int (0 : Int32)) := F8.other W19 (Or.inr (slot_ne (Or.inl (hw _ (List.mem_of_getElem? (i := 16) rfl))) (Or.inl (hw _ (List.mem_of_getElem? (i := 14) rfl))) (by decide) (t := .int) (t' := (.array (.array .long))) (by decide) (by decide)))
  have F23 : Fld Z h19 a1 "com/example/gieres/gieres/model/TupleTable" "slots" "[I" .null := F9.other W19 (Or.inr (slot_ne (Or.inl (hw _ (List.mem_of_getElem? (i := 19) rfl))) (Or.inl (hw _ (List.mem_of_getElem? (i := 14) rfl))) (by decide) (t := (.array .int)) (t' := (.array (.array .long))) (by decide) (by decide)))
  have F24 : Fld Z h19 a1 "com/example/gieres/gieres/model/TupleTable" "hashes" "[J" .null := F10.other W19 (Or.inr (slot_ne (Or.inl (hw _ (List.mem_of_getElem? (i := 21) rfl))) (Or.inl (hw _ (List.mem_of_getElem? (i := 14) rfl))) (by decide) (t := (.array .long)) (t' := (.array (.array .long))) (by decide) (by decide)))
  have F25 : Fld Z h19 a1 "com/example/gieres/gieres/model/TupleTable" "found" "[I" .null := F11.other W19 (Or.inr (slot_ne (Or.inl (hw _ (List.mem_of_getElem? (i := 23) rfl))) (Or.inl (hw _ (List.mem_of_getElem? (i := 14) rfl))) (by decide) (t := (.array .int)) (t' := (.array (.array .long))) (by decide) (by decide)))
  have F26 : Fld Z h19 a1 "com/example/gieres/gieres/model/TupleTable" "word" "[I" .null := F12.other W19 (Or.inr (slot_ne (Or.inr (hw _ (List.mem_of_getElem? (i := 25) rfl))) (Or.inl (hw _ (List.mem_of_getElem? (i := 14) rfl))) (by decide) (t := (.array .int)) (t' := (.array (.array .long))) (by decide) (by decide)))
  have F27 : Fld Z h19 a1 "com/example/gieres/gieres/model/TupleTable" "shift" "[I" .null := F13.other W19 (Or.inr (slot_ne (Or.inr (hw _ (List.mem_of_getElem? (i := 27) rfl))) (Or.inl (hw _ (List.mem_of_getElem? (i := 14) rfl))) (by decide) (t := (.array .int)) (t' := (.array (.array .long))) (by decide) (by decide)))
  have F28 : Fld Z h19 a1 "com/example/gieres/gieres/model/TupleTable" "mask" "[J" .null := F14.other W19 (Or.inr (slot_ne (Or.inr (hw _ (List.mem_of_getElem? (i := 29) rfl))) (Or.inl (hw _ (List.mem_of_getElem? (i := 14) rfl))) (by decide) (t := (.array .long)) (t' := (.array (.array .long))) (by decide) (by decide)))
  have F29 : Fld Z h19 a1 "com/example/gieres/gieres/model/TupleTable" "width" "I" (.int (0 : Int32)) := F15.other W19 (Or.inr (slot_ne (Or.inr (hw _ (List.mem_of_getElem? (i := 40) rfl))) (Or.inl (hw _ (List.mem_of_getElem? (i := 14) rfl))) (by decide) (t := .int) (t' := (.array (.array .long))) (by decide) (by decide)))
  have V_30 : Arv Z h19 a2 ka2 .long (3 : Int32) [(.long t0), (.long t1), (.long t2)] (.long (0 : Int64)) := V_16.other W19 ne21
  have K31 : Keep h0 h19 [a1] := K17.wr W19 (Or.inl (List.mem_of_getElem? (i := 0) rfl))
  have V_32 : Arv Z h19 b2 k2 (.array .long) (1 : Int32) [.null] .null := V_18.other W19 (Ne.symm ne3)
  have F33 : Fld Z h19 a1 "com/example/gieres/gieres/model/TupleTable" "pages" "[[J" (.ref b2) := F7.same W19
  have N19 := Fr.snoc X19 N0 g1
  show Go p e below _ (T19.setTop (mkF m 12 #[.val (.ref a1), .val (.ref a2), .unset, .unset, .unset, .unset] []))
  refine Go.st (fun _ => XS.aloadN X19.here hx rfl (hb hby d1_12) rfl rfl) ?_
  show Go p e below _ (T19.setTop (mkF m 13 #[.val (.ref a1), .val (.ref a2), .unset, .unset, .unset, .unset] [(.ref a1)]))
  refine Go.st (fun _ => XS.iconst X19.here hx rfl (hb hby d1_13)) ?_
  show Go p e below _ (T19.setTop (mkF m 14 #[.val (.ref a1), .val (.ref a2), .unset, .unset, .unset, .unset] [(.int (4 : Int32)), (.ref a1)]))
  obtain ⟨T34, h34, X34, e34, W34, st34⟩ := putF X19 hx hZ hown (host := "") (Or.inl (hw _ (List.mem_of_getElem? (i := 15) rfl))) Via.refl e19 F22 E_21 (Or.inl (hw _ (List.mem_of_getElem? (i := 16) rfl))) (hw _ (List.mem_of_getElem? (i := 2) rfl)) (ty := .int) (by decide) rfl rfl (g := (mkF m 14 #[.val (.ref a1), .val (.ref a2), .unset, .unset, .unset, .unset] [(.int (4 : Int32)), (.ref a1)])) rfl rfl (hb hby d1_14)
  refine Go.st st34 ?_
  have O35 : Old Z n0 h34 := O20.wr W34 g1
  have E_36 : Exa Z h34 a1 "com/example/gieres/gieres/model/TupleTable" := E_21.wr W34
  have F37 : Fld Z h34 a1 "com/example/gieres/gieres/model/TupleTable" "slots" "[I" .null := F23.other W34 (Or.inr (slot_ne (Or.inl (hw _ (List.mem_of_getElem? (i := 19) rfl))) (Or.inl (hw _ (List.mem_of_getElem? (i := 16) rfl))) (by decide) (t := (.array .int)) (t' := .int) (by decide) (by decide)))
  have F38 : Fld Z h34 a1 "com/example/gieres/gieres/model/TupleTable" "hashes" "[J" .null := F24.other W34 (Or.inr (slot_ne (Or.inl (hw _ (List.mem_of_getElem? (i := 21) rfl))) (Or.inl (hw _ (List.mem_of_getElem? (i := 16) rfl))) (by decide) (t := (.array .long)) (t' := .int) (by decide) (by decide)))
  have F39 : Fld Z h34 a1 "com/example/gieres/gieres/model/TupleTable" "found" "[I" .null := F25.other W34 (Or.inr (slot_ne (Or.inl (hw _ (List.mem_of_getElem? (i := 23) rfl))) (Or.inl (hw _ (List.mem_of_getElem? (i := 16) rfl))) (by decide) (t := (.array .int)) (t' := .int) (by decide) (by decide)))
  have F40 : Fld Z h34 a1 "com/example/gieres/gieres/model/TupleTable" "word" "[I" .null := F26.other W34 (Or.inr (slot_ne (Or.inr (hw _ (List.mem_of_getElem? (i := 25) rfl))) (Or.inl (hw _ (List.mem_of_getElem? (i := 16) rfl))) (by decide) (t := (.array .int)) (t' := .int) (by decide) (by decide)))
  have F41 : Fld Z h34 a1 "com/example/gieres/gieres/model/TupleTable" "shift" "[I" .null := F27.other W34 (Or.inr (slot_ne (Or.inr (hw _ (List.mem_of_getElem? (i := 27) rfl))) (Or.inl (hw _ (List.mem_of_getElem? (i := 16) rfl))) (by decide) (t := (.array .int)) (t' := .int) (by decide) (by decide)))
  have F42 : Fld Z h34 a1 "com/example/gieres/gieres/model/TupleTable" "mask" "[J" .null := F28.other W34 (Or.inr (slot_ne (Or.inr (hw _ (List.mem_of_getElem? (i := 29) rfl))) (Or.inl (hw _ (List.mem_of_getElem? (i := 16) rfl))) (by decide) (t := (.array .long)) (t' := .int) (by decide) (by decide)))
  have F43 : Fld Z h34 a1 "com/example/gieres/gieres/model/TupleTable" "width" "I" (.int (0 : Int32)) := F29.other W34 (Or.inr (slot_ne (Or.inr (hw _ (List.mem_of_getElem? (i := 40) rfl))) (Or.inl (hw _ (List.mem_of_getElem? (i := 16) rfl))) (by decide) (t := .int) (t' := .int) (by decide) (by decide)))
  have V_44 : Arv Z h34 a2 ka2 .long (3 : Int32) [(.long t0), (.long t1), (.long t2)] (.long (0 : Int64)) := V_30.other W34 ne21
  have K45 : Keep h0 h34 [a1] := K31.wr W34 (Or.inl (List.mem_of_getElem? (i := 0) rfl))
  have F46 : Fld Z h34 a1 "com/example/gieres/gieres/model/TupleTable" "slotBits" "I" (.int (4 : Int32)) := F22.same W34
  have N34 := Fr.snoc X34 N19 g1
  show Go p e below _ (T34.setTop (mkF m 17 #[.val (.ref a1), .val (.ref a2), .unset, .unset, .unset, .unset] []))
  refine Go.st (fun _ => XS.aloadN X34.here hx rfl (hb hby d1_17) rfl rfl) ?_
  show Go p e below _ (T34.setTop (mkF m 18 #[.val (.ref a1), .val (.ref a2), .unset, .unset, .unset, .unset] [(.ref a1)]))
  refine Go.st (fun _ => XS.iconst X34.here hx rfl (hb hby d1_18)) ?_
  show Go p e below _ (T34.setTop (mkF m 19 #[.val (.ref a1), .val (.ref a2), .unset, .unset, .unset, .unset] [(.int (1 : Int32)), (.ref a1)]))
  refine Go.st (fun _ => XS.aloadN X34.here hx rfl (hb hby d1_19) rfl rfl) ?_
  show Go p e below _ (T34.setTop (mkF m 20 #[.val (.ref a1), .val (.ref a2), .unset, .unset, .unset, .unset] [(.ref a1), (.int (1 : Int32)), (.ref a1)]))
  obtain ⟨T47, X47, e47, st47⟩ := getF X34 hx hZ hown (host := "") (Or.inl (hw _ (List.mem_of_getElem? (i := 15) rfl))) Via.refl e34 F46 (g := (mkF m 20 #[.val (.ref a1), .val (.ref a2), .unset, .unset, .unset, .unset] [(.ref a1), (.int (1 : Int32)), (.ref a1)])) rfl rfl (hb hby d1_20)
  refine Go.st st47 ?_
  show Go p e below _ (T47.setTop (mkF m 23 #[.val (.ref a1), .val (.ref a2), .unset, .unset, .unset, .unset] [(.int (4 : Int32)), (.int (1 : Int32)), (.ref a1)]))
  refine Go.st (fun _ => XS.ishl X47.here hx rfl (hb hby d1_23) rfl) ?_
  rw [show ((1 : Int32) <<< ((4 : Int32) &&& 31)) = (16 : Int32) from by decide]
  show Go p e below _ (T47.setTop (mkF m 24 #[.val (.ref a1), .val (.ref a2), .unset, .unset, .unset, .unset] [(.int (16 : Int32)), (.ref a1)]))
  obtain ⟨T48, h48, k48, X48, e48, E48, A48, st48⟩ := newP X47 hx hZ (hw _ (List.mem_of_getElem? (i := 17) rfl)) e47 (g := (mkF m 24 #[.val (.ref a1), .val (.ref a2), .unset, .unset, .unset, .unset] [(.int (16 : Int32)), (.ref a1)])) rfl (hb hby d1_24) rfl (by decide) (cap := 16) (by decide) (by decide) (by decide) (by decide)
  obtain ⟨b48, g48⟩ : ∃ z, z = h34.size := ⟨_, rfl⟩
  rw [← g48] at A48 st48
  refine Go.st st48 ?_
  have gn48 : n0 ≤ b48 := oldGe O35 g48
  have sz48 : h0.size ≤ b48 := Nat.le_trans K45.1 (Nat.le_of_eq g48.symm)
  have ne49 : a1 ≠ b48 := Nat.ne_of_lt (Nat.lt_of_lt_of_le E_36.lt (Nat.le_of_eq g48.symm))
  have ne50 : a2 ≠ b48 := Nat.ne_of_lt (Nat.lt_of_lt_of_le V_44.lt (Nat.le_of_eq g48.symm))
  have O51 : Old Z n0 h48 := O35.ext E48
  have E_52 : Exa Z h48 a1 "com/example/gieres/gieres/model/TupleTable" := E_36.ext E48
  have F53 : Fld Z h48 a1 "com/example/gieres/gieres/model/TupleTable" "slots" "[I" .null := F37.ext E48
  have F54 : Fld Z h48 a1 "com/example/gieres/gieres/model/TupleTable" "hashes" "[J" .null := F38.ext E48
  have F55 : Fld Z h48 a1 "com/example/gieres/gieres/model/TupleTable" "found" "[I" .null := F39.ext E48
  have F56 : Fld Z h48 a1 "com/example/gieres/gieres/model/TupleTable" "word" "[I" .null := F40.ext E48
  have F57 : Fld Z h48 a1 "com/example/gieres/gieres/model/TupleTable" "shift" "[I" .null := F41.ext E48
  have F58 : Fld Z h48 a1 "com/example/gieres/gieres/model/TupleTable" "mask" "[J" .null := F42.ext E48
  have F59 : Fld Z h48 a1 "com/example/gieres/gieres/model/TupleTable" "width" "I" (.int (0 : Int32)) := F43.ext E48
  have V_60 : Arv Z h48 a2 ka2 .long (3 : Int32) [(.long t0), (.long t1), (.long t2)] (.long (0 : Int64)) := V_44.ext E48
  have K61 : Keep h0 h48 [a1] := K45.ext E48
  have F62 : Fld Z h48 a1 "com/example/gieres/gieres/model/TupleTable" "slotBits" "I" (.int (4 : Int32)) := F46.ext E48
  have V_63 : Arv Z h48 b48 k48 .int (16 : Int32) [(.int (0 : Int32)), (.int (0 : Int32)), (.int (0 : Int32)), (.int (0 : Int32)), (.int (0 : Int32)), (.int (0 : Int32)), (.int (0 : Int32)), (.int (0 : Int32)), (.int (0 : Int32)), (.int (0 : Int32)), (.int (0 : Int32)), (.int (0 : Int32)), (.int (0 : Int32)), (.int (0 : Int32)), (.int (0 : Int32)), (.int (0 : Int32))] (.int (0 : Int32)) := (Arv.new A48 (by decide)).pad (pad_rep [] (.int (0 : Int32)) 16)
  show Go p e below _ (T48.setTop (mkF m 26 #[.val (.ref a1), .val (.ref a2), .unset, .unset, .unset, .unset] [(.ref b48), (.ref a1)]))
  obtain ⟨T64, h64, X64, e64, W64, st64⟩ := putF X48 hx hZ hown (host := "") (Or.inl (hw _ (List.mem_of_getElem? (i := 18) rfl))) Via.refl e48 F53 E_52 (Or.inl (hw _ (List.mem_of_getElem? (i := 19) rfl))) (hw _ (List.mem_of_getElem? (i := 2) rfl)) (ty := (.array .int)) (by decide) rfl rfl (g := (mkF m 26 #[.val (.ref a1), .val (.ref a2), .unset, .unset, .unset, .unset] [(.ref b48), (.ref a1)])) rfl rfl (hb hby d1_26)
  refine Go.st st64 ?_
  have O65 : Old Z n0 h64 := O51.wr W64 g1
  have E_66 : Exa Z h64 a1 "com/example/gieres/gieres/model/TupleTable" := E_52.wr W64
  have F67 : Fld Z h64 a1 "com/example/gieres/gieres/model/TupleTable" "hashes" "[J" .null := F54.other W64 (Or.inr (slot_ne (Or.inl (hw _ (List.mem_of_getElem? (i := 21) rfl))) (Or.inl (hw _ (List.mem_of_getElem? (i := 19) rfl))) (by decide) (t := (.array .long)) (t' := (.array .int)) (by decide) (by decide)))
  have F68 : Fld Z h64 a1 "com/example/gieres/gieres/model/TupleTable" "found" "[I" .null := F55.other W64 (Or.inr (slot_ne (Or.inl (hw _ (List.mem_of_getElem? (i := 23) rfl))) (Or.inl (hw _ (List.mem_of_getElem? (i := 19) rfl))) (by decide) (t := (.array .int)) (t' := (.array .int)) (by decide) (by decide)))
  have F69 : Fld Z h64 a1 "com/example/gieres/gieres/model/TupleTable" "word" "[I" .null := F56.other W64 (Or.inr (slot_ne (Or.inr (hw _ (List.mem_of_getElem? (i := 25) rfl))) (Or.inl (hw _ (List.mem_of_getElem? (i := 19) rfl))) (by decide) (t := (.array .int)) (t' := (.array .int)) (by decide) (by decide)))
  have F70 : Fld Z h64 a1 "com/example/gieres/gieres/model/TupleTable" "shift" "[I" .null := F57.other W64 (Or.inr (slot_ne (Or.inr (hw _ (List.mem_of_getElem? (i := 27) rfl))) (Or.inl (hw _ (List.mem_of_getElem? (i := 19) rfl))) (by decide) (t := (.array .int)) (t' := (.array .int)) (by decide) (by decide)))
  have F71 : Fld Z h64 a1 "com/example/gieres/gieres/model/TupleTable" "mask" "[J" .null := F58.other W64 (Or.inr (slot_ne (Or.inr (hw _ (List.mem_of_getElem? (i := 29) rfl))) (Or.inl (hw _ (List.mem_of_getElem? (i := 19) rfl))) (by decide) (t := (.array .long)) (t' := (.array .int)) (by decide) (by decide)))
  have F72 : Fld Z h64 a1 "com/example/gieres/gieres/model/TupleTable" "width" "I" (.int (0 : Int32)) := F59.other W64 (Or.inr (slot_ne (Or.inr (hw _ (List.mem_of_getElem? (i := 40) rfl))) (Or.inl (hw _ (List.mem_of_getElem? (i := 19) rfl))) (by decide) (t := .int) (t' := (.array .int)) (by decide) (by decide)))
  have V_73 : Arv Z h64 a2 ka2 .long (3 : Int32) [(.long t0), (.long t1), (.long t2)] (.long (0 : Int64)) := V_60.other W64 ne21
  have K74 : Keep h0 h64 [a1] := K61.wr W64 (Or.inl (List.mem_of_getElem? (i := 0) rfl))
  have F75 : Fld Z h64 a1 "com/example/gieres/gieres/model/TupleTable" "slotBits" "I" (.int (4 : Int32)) := F62.other W64 (Or.inr (slot_ne (Or.inl (hw _ (List.mem_of_getElem? (i := 16) rfl))) (Or.inl (hw _ (List.mem_of_getElem? (i := 19) rfl))) (by decide) (t := .int) (t' := (.array .int)) (by decide) (by decide)))
  have V_76 : Arv Z h64 b48 k48 .int (16 : Int32) [(.int (0 : Int32)), (.int (0 : Int32)), (.int (0 : Int32)), (.int (0 : Int32)), (.int (0 : Int32)), (.int (0 : Int32)), (.int (0 : Int32)), (.int (0 : Int32)), (.int (0 : Int32)), (.int (0 : Int32)), (.int (0 : Int32)), (.int (0 : Int32)), (.int (0 : Int32)), (.int (0 : Int32)), (.int (0 : Int32)), (.int (0 : Int32))] (.int (0 : Int32)) := V_63.other W64 (Ne.symm ne49)
  have F77 : Fld Z h64 a1 "com/example/gieres/gieres/model/TupleTable" "slots" "[I" (.ref b48) := F53.same W64
  have N64 := Fr.snoc X64 N34 g1
  show Go p e below _ (T64.setTop (mkF m 29 #[.val (.ref a1), .val (.ref a2), .unset, .unset, .unset, .unset] []))
  refine Go.st (fun _ => XS.aloadN X64.here hx rfl (hb hby d1_29) rfl rfl) ?_
  show Go p e below _ (T64.setTop (mkF m 30 #[.val (.ref a1), .val (.ref a2), .unset, .unset, .unset, .unset] [(.ref a1)]))
  refine Go.st (fun _ => XS.bipush X64.here hx rfl (hb hby d1_30)) ?_
  show Go p e below _ (T64.setTop (mkF m 32 #[.val (.ref a1), .val (.ref a2), .unset, .unset, .unset, .unset] [(.int (16 : Int32)), (.ref a1)]))
  obtain ⟨T78, h78, k78, X78, e78, E78, A78, st78⟩ := newP X64 hx hZ (hw _ (List.mem_of_getElem? (i := 4) rfl)) e64 (g := (mkF m 32 #[.val (.ref a1), .val (.ref a2), .unset, .unset, .unset, .unset] [(.int (16 : Int32)), (.ref a1)])) rfl (hb hby d1_32) rfl (by decide) (cap := 16) (by decide) (by decide) (by decide) (by decide)
  obtain ⟨b78, g78⟩ : ∃ z, z = h64.size := ⟨_, rfl⟩
  rw [← g78] at A78 st78
  refine Go.st st78 ?_
  have gn78 : n0 ≤ b78 := oldGe O65 g78
  have sz78 : h0.size ≤ b78 := Nat.le_trans K74.1 (Nat.le_of_eq g78.symm)
  have ne79 : a1 ≠ b78 := Nat.ne_of_lt (Nat.lt_of_lt_of_le E_66.lt (Nat.le_of_eq g78.symm))
  have ne80 : a2 ≠ b78 := Nat.ne_of_lt (Nat.lt_of_lt_of_le V_73.lt (Nat.le_of_eq g78.symm))
  have O81 : Old Z n0 h78 := O65.ext E78
  have E_82 : Exa Z h78 a1 "com/example/gieres/gieres/model/TupleTable" := E_66.ext E78
  have F83 : Fld Z h78 a1 "com/example/gieres/gieres/model/TupleTable" "hashes" "[J" .null := F67.ext E78
  have F84 : Fld Z h78 a1 "com/example/gieres/gieres/model/TupleTable" "found" "[I" .null := F68.ext E78
  have F85 : Fld Z h78 a1 "com/example/gieres/gieres/model/TupleTable" "word" "[I" .null := F69.ext E78
  have F86 : Fld Z h78 a1 "com/example/gieres/gieres/model/TupleTable" "shift" "[I" .null := F70.ext E78
  have F87 : Fld Z h78 a1 "com/example/gieres/gieres/model/TupleTable" "mask" "[J" .null := F71.ext E78
  have F88 : Fld Z h78 a1 "com/example/gieres/gieres/model/TupleTable" "width" "I" (.int (0 : Int32)) := F72.ext E78
  have V_89 : Arv Z h78 a2 ka2 .long (3 : Int32) [(.long t0), (.long t1), (.long t2)] (.long (0 : Int64)) := V_73.ext E78
  have K90 : Keep h0 h78 [a1] := K74.ext E78
  have V_91 : Arv Z h78 b78 k78 .long (16 : Int32) [(.long (0 : Int64)), (.long (0 : Int64)), (.long (0 : Int64)), (.long (0 : Int64)), (.long (0 : Int64)), (.long (0 : Int64)), (.long (0 : Int64)), (.long (0 : Int64)), (.long (0 : Int64)), (.long (0 : Int64)), (.long (0 : Int64)), (.long (0 : Int64)), (.long (0 : Int64)), (.long (0 : Int64)), (.long (0 : Int64)), (.long (0 : Int64))] (.long (0 : Int64)) := (Arv.new A78 (by decide)).pad (pad_rep [] (.long (0 : Int64)) 16)
  show Go p e below _ (T78.setTop (mkF m 34 #[.val (.ref a1), .val (.ref a2), .unset, .unset, .unset, .unset] [(.ref b78), (.ref a1)]))
  obtain ⟨T92, h92, X92, e92, W92, st92⟩ := putF X78 hx hZ hown (host := "") (Or.inl (hw _ (List.mem_of_getElem? (i := 20) rfl))) Via.refl e78 F83 E_82 (Or.inl (hw _ (List.mem_of_getElem? (i := 21) rfl))) (hw _ (List.mem_of_getElem? (i := 2) rfl)) (ty := (.array .long)) (by decide) rfl rfl (g := (mkF m 34 #[.val (.ref a1), .val (.ref a2), .unset, .unset, .unset, .unset] [(.ref b78), (.ref a1)])) rfl rfl (hb hby d1_34)
  refine Go.st st92 ?_
  have O93 : Old Z n0 h92 := O81.wr W92 g1
  have E_94 : Exa Z h92 a1 "com/example/gieres/gieres/model/TupleTable" := E_82.wr W92
  have F95 : Fld Z h92 a1 "com/example/gieres/gieres/model/TupleTable" "found" "[I" .null := F84.other W92 (Or.inr (slot_ne (Or.inl (hw _ (List.mem_of_getElem? (i := 23) rfl))) (Or.inl (hw _ (List.mem_of_getElem? (i := 21) rfl))) (by decide) (t := (.array .int)) (t' := (.array .long)) (by decide) (by decide)))
  have F96 : Fld Z h92 a1 "com/example/gieres/gieres/model/TupleTable" "word" "[I" .null := F85.other W92 (Or.inr (slot_ne (Or.inr (hw _ (List.mem_of_getElem? (i := 25) rfl))) (Or.inl (hw _ (List.mem_of_getElem? (i := 21) rfl))) (by decide) (t := (.array .int)) (t' := (.array .long)) (by decide) (by decide)))
  have F97 : Fld Z h92 a1 "com/example/gieres/gieres/model/TupleTable" "shift" "[I" .null := F86.other W92 (Or.inr (slot_ne (Or.inr (hw _ (List.mem_of_getElem? (i := 27) rfl))) (Or.inl (hw _ (List.mem_of_getElem? (i := 21) rfl))) (by decide) (t := (.array .int)) (t' := (.array .long)) (by decide) (by decide)))
  have F98 : Fld Z h92 a1 "com/example/gieres/gieres/model/TupleTable" "mask" "[J" .null := F87.other W92 (Or.inr (slot_ne (Or.inr (hw _ (List.mem_of_getElem? (i := 29) rfl))) (Or.inl (hw _ (List.mem_of_getElem? (i := 21) rfl))) (by decide) (t := (.array .long)) (t' := (.array .long)) (by decide) (by decide)))
  have F99 : Fld Z h92 a1 "com/example/gieres/gieres/model/TupleTable" "width" "I" (.int (0 : Int32)) := F88.other W92 (Or.inr (slot_ne (Or.inr (hw _ (List.mem_of_getElem? (i := 40) rfl))) (Or.inl (hw _ (List.mem_of_getElem? (i := 21) rfl))) (by decide) (t := .int) (t' := (.array .long)) (by decide) (by decide)))
  have V_100 : Arv Z h92 a2 ka2 .long (3 : Int32) [(.long t0), (.long t1), (.long t2)] (.long (0 : Int64)) := V_89.other W92 ne21
  have K101 : Keep h0 h92 [a1] := K90.wr W92 (Or.inl (List.mem_of_getElem? (i := 0) rfl))
  have V_102 : Arv Z h92 b78 k78 .long (16 : Int32) [(.long (0 : Int64)), (.long (0 : Int64)), (.long (0 : Int64)), (.long (0 : Int64)), (.long (0 : Int64)), (.long (0 : Int64)), (.long (0 : Int64)), (.long (0 : Int64)), (.long (0 : Int64)), (.long (0 : Int64)), (.long (0 : Int64)), (.long (0 : Int64)), (.long (0 : Int64)), (.long (0 : Int64)), (.long (0 : Int64)), (.long (0 : Int64))] (.long (0 : Int64)) := V_91.other W92 (Ne.symm ne79)
  have F103 : Fld Z h92 a1 "com/example/gieres/gieres/model/TupleTable" "hashes" "[J" (.ref b78) := F83.same W92
  have N92 := Fr.snoc X92 N64 g1
  show Go p e below _ (T92.setTop (mkF m 37 #[.val (.ref a1), .val (.ref a2), .unset, .unset, .unset, .unset] []))
  refine Go.st (fun _ => XS.aloadN X92.here hx rfl (hb hby d1_37) rfl rfl) ?_
  show Go p e below _ (T92.setTop (mkF m 38 #[.val (.ref a1), .val (.ref a2), .unset, .unset, .unset, .unset] [(.ref a1)]))
  refine Go.st (fun _ => XS.bipush X92.here hx rfl (hb hby d1_38)) ?_
  show Go p e below _ (T92.setTop (mkF m 40 #[.val (.ref a1), .val (.ref a2), .unset, .unset, .unset, .unset] [(.int (16 : Int32)), (.ref a1)]))
  obtain ⟨T104, h104, k104, X104, e104, E104, A104, st104⟩ := newP X92 hx hZ (hw _ (List.mem_of_getElem? (i := 17) rfl)) e92 (g := (mkF m 40 #[.val (.ref a1), .val (.ref a2), .unset, .unset, .unset, .unset] [(.int (16 : Int32)), (.ref a1)])) rfl (hb hby d1_40) rfl (by decide) (cap := 16) (by decide) (by decide) (by decide) (by decide)
  obtain ⟨b104, g104⟩ : ∃ z, z = h92.size := ⟨_, rfl⟩
  rw [← g104] at A104 st104
  refine Go.st st104 ?_
  have gn104 : n0 ≤ b104 := oldGe O93 g104
  have sz104 : h0.size ≤ b104 := Nat.le_trans K101.1 (Nat.le_of_eq g104.symm)
  have ne105 : a1 ≠ b104 := Nat.ne_of_lt (Nat.lt_of_lt_of_le E_94.lt (Nat.le_of_eq g104.symm))
  have ne106 : a2 ≠ b104 := Nat.ne_of_lt (Nat.lt_of_lt_of_le V_100.lt (Nat.le_of_eq g104.symm))
  have O107 : Old Z n0 h104 := O93.ext E104
  have E_108 : Exa Z h104 a1 "com/example/gieres/gieres/model/TupleTable" := E_94.ext E104
  have F109 : Fld Z h104 a1 "com/example/gieres/gieres/model/TupleTable" "found" "[I" .null := F95.ext E104
  have F110 : Fld Z h104 a1 "com/example/gieres/gieres/model/TupleTable" "word" "[I" .null := F96.ext E104
  have F111 : Fld Z h104 a1 "com/example/gieres/gieres/model/TupleTable" "shift" "[I" .null := F97.ext E104
  have F112 : Fld Z h104 a1 "com/example/gieres/gieres/model/TupleTable" "mask" "[J" .null := F98.ext E104
  have F113 : Fld Z h104 a1 "com/example/gieres/gieres/model/TupleTable" "width" "I" (.int (0 : Int32)) := F99.ext E104
  have V_114 : Arv Z h104 a2 ka2 .long (3 : Int32) [(.long t0), (.long t1), (.long t2)] (.long (0 : Int64)) := V_100.ext E104
  have K115 : Keep h0 h104 [a1] := K101.ext E104
  have V_116 : Arv Z h104 b104 k104 .int (16 : Int32) [(.int (0 : Int32)), (.int (0 : Int32)), (.int (0 : Int32)), (.int (0 : Int32)), (.int (0 : Int32)), (.int (0 : Int32)), (.int (0 : Int32)), (.int (0 : Int32)), (.int (0 : Int32)), (.int (0 : Int32)), (.int (0 : Int32)), (.int (0 : Int32)), (.int (0 : Int32)), (.int (0 : Int32)), (.int (0 : Int32)), (.int (0 : Int32))] (.int (0 : Int32)) := (Arv.new A104 (by decide)).pad (pad_rep [] (.int (0 : Int32)) 16)
  show Go p e below _ (T104.setTop (mkF m 42 #[.val (.ref a1), .val (.ref a2), .unset, .unset, .unset, .unset] [(.ref b104), (.ref a1)]))
  obtain ⟨T117, h117, X117, e117, W117, st117⟩ := putF X104 hx hZ hown (host := "") (Or.inl (hw _ (List.mem_of_getElem? (i := 22) rfl))) Via.refl e104 F109 E_108 (Or.inl (hw _ (List.mem_of_getElem? (i := 23) rfl))) (hw _ (List.mem_of_getElem? (i := 2) rfl)) (ty := (.array .int)) (by decide) rfl rfl (g := (mkF m 42 #[.val (.ref a1), .val (.ref a2), .unset, .unset, .unset, .unset] [(.ref b104), (.ref a1)])) rfl rfl (hb hby d1_42)
  refine Go.st st117 ?_
  have O118 : Old Z n0 h117 := O107.wr W117 g1
  have E_119 : Exa Z h117 a1 "com/example/gieres/gieres/model/TupleTable" := E_108.wr W117
  have F120 : Fld Z h117 a1 "com/example/gieres/gieres/model/TupleTable" "word" "[I" .null := F110.other W117 (Or.inr (slot_ne (Or.inr (hw _ (List.mem_of_getElem? (i := 25) rfl))) (Or.inl (hw _ (List.mem_of_getElem? (i := 23) rfl))) (by decide) (t := (.array .int)) (t' := (.array .int)) (by decide) (by decide)))
  have F121 : Fld Z h117 a1 "com/example/gieres/gieres/model/TupleTable" "shift" "[I" .null := F111.other W117 (Or.inr (slot_ne (Or.inr (hw _ (List.mem_of_getElem? (i := 27) rfl))) (Or.inl (hw _ (List.mem_of_getElem? (i := 23) rfl))) (by decide) (t := (.array .int)) (t' := (.array .int)) (by decide) (by decide)))
  have F122 : Fld Z h117 a1 "com/example/gieres/gieres/model/TupleTable" "mask" "[J" .null := F112.other W117 (Or.inr (slot_ne (Or.inr (hw _ (List.mem_of_getElem? (i := 29) rfl))) (Or.inl (hw _ (List.mem_of_getElem? (i := 23) rfl))) (by decide) (t := (.array .long)) (t' := (.array .int)) (by decide) (by decide)))
  have F123 : Fld Z h117 a1 "com/example/gieres/gieres/model/TupleTable" "width" "I" (.int (0 : Int32)) := F113.other W117 (Or.inr (slot_ne (Or.inr (hw _ (List.mem_of_getElem? (i := 40) rfl))) (Or.inl (hw _ (List.mem_of_getElem? (i := 23) rfl))) (by decide) (t := .int) (t' := (.array .int)) (by decide) (by decide)))
  have V_124 : Arv Z h117 a2 ka2 .long (3 : Int32) [(.long t0), (.long t1), (.long t2)] (.long (0 : Int64)) := V_114.other W117 ne21
  have K125 : Keep h0 h117 [a1] := K115.wr W117 (Or.inl (List.mem_of_getElem? (i := 0) rfl))
  have V_126 : Arv Z h117 b104 k104 .int (16 : Int32) [(.int (0 : Int32)), (.int (0 : Int32)), (.int (0 : Int32)), (.int (0 : Int32)), (.int (0 : Int32)), (.int (0 : Int32)), (.int (0 : Int32)), (.int (0 : Int32)), (.int (0 : Int32)), (.int (0 : Int32)), (.int (0 : Int32)), (.int (0 : Int32)), (.int (0 : Int32)), (.int (0 : Int32)), (.int (0 : Int32)), (.int (0 : Int32))] (.int (0 : Int32)) := V_116.other W117 (Ne.symm ne105)
  have F127 : Fld Z h117 a1 "com/example/gieres/gieres/model/TupleTable" "found" "[I" (.ref b104) := F109.same W117
  have N117 := Fr.snoc X117 N92 g1
  show Go p e below _ (T117.setTop (mkF m 45 #[.val (.ref a1), .val (.ref a2), .unset, .unset, .unset, .unset] []))
  refine Go.st (fun _ => XS.aloadN X117.here hx rfl (hb hby d1_45) rfl rfl) ?_
  show Go p e below _ (T117.setTop (mkF m 46 #[.val (.ref a1), .val (.ref a2), .unset, .unset, .unset, .unset] [(.ref a1)]))
  refine Go.st (fun _ => XS.aloadN X117.here hx rfl (hb hby d1_46) rfl rfl) ?_
  show Go p e below _ (T117.setTop (mkF m 47 #[.val (.ref a1), .val (.ref a2), .unset, .unset, .unset, .unset] [(.ref a2), (.ref a1)]))
  obtain ⟨cl128, Ar128, qk128, Sz128, Nn128, Ha128, Ga128⟩ := id V_124
  refine Go.st (fun _ => X117.arraylength hx (by rw [e117]; exact Ar128.1) (State.isArrayOf_alike hZ.alike Ar128.2.1) (g := (mkF m 47 #[.val (.ref a1), .val (.ref a2), .unset, .unset, .unset, .unset] [(.ref a2), (.ref a1)])) rfl rfl (hb hby d1_47) _) ?_
  rw [len_of Sz128 Nn128]
  show Go p e below _ (T117.setTop (mkF m 48 #[.val (.ref a1), .val (.ref a2), .unset, .unset, .unset, .unset] [(.int (3 : Int32)), (.ref a1)]))
  obtain ⟨T129, h129, k129, X129, e129, E129, A129, st129⟩ := newP X117 hx hZ (hw _ (List.mem_of_getElem? (i := 17) rfl)) e117 (g := (mkF m 48 #[.val (.ref a1), .val (.ref a2), .unset, .unset, .unset, .unset] [(.int (3 : Int32)), (.ref a1)])) rfl (hb hby d1_48) rfl (by decide) (cap := 3) (by decide) (by decide) (by decide) (by decide)
  obtain ⟨b129, g129⟩ : ∃ z, z = h117.size := ⟨_, rfl⟩
  rw [← g129] at A129 st129
  refine Go.st st129 ?_
  have gn129 : n0 ≤ b129 := oldGe O118 g129
  have sz129 : h0.size ≤ b129 := Nat.le_trans K125.1 (Nat.le_of_eq g129.symm)
  have ne130 : a1 ≠ b129 := Nat.ne_of_lt (Nat.lt_of_lt_of_le E_119.lt (Nat.le_of_eq g129.symm))
  have ne131 : a2 ≠ b129 := Nat.ne_of_lt (Nat.lt_of_lt_of_le V_124.lt (Nat.le_of_eq g129.symm))
  have O132 : Old Z n0 h129 := O118.ext E129
  have E_133 : Exa Z h129 a1 "com/example/gieres/gieres/model/TupleTable" := E_119.ext E129
  have F134 : Fld Z h129 a1 "com/example/gieres/gieres/model/TupleTable" "word" "[I" .null := F120.ext E129
  have F135 : Fld Z h129 a1 "com/example/gieres/gieres/model/TupleTable" "shift" "[I" .null := F121.ext E129
  have F136 : Fld Z h129 a1 "com/example/gieres/gieres/model/TupleTable" "mask" "[J" .null := F122.ext E129
  have F137 : Fld Z h129 a1 "com/example/gieres/gieres/model/TupleTable" "width" "I" (.int (0 : Int32)) := F123.ext E129
  have V_138 : Arv Z h129 a2 ka2 .long (3 : Int32) [(.long t0), (.long t1), (.long t2)] (.long (0 : Int64)) := V_124.ext E129
  have K139 : Keep h0 h129 [a1] := K125.ext E129
  have V_140 : Arv Z h129 b129 k129 .int (3 : Int32) [(.int (0 : Int32)), (.int (0 : Int32)), (.int (0 : Int32))] (.int (0 : Int32)) := (Arv.new A129 (by decide)).pad (pad_rep [] (.int (0 : Int32)) 3)
  show Go p e below _ (T129.setTop (mkF m 50 #[.val (.ref a1), .val (.ref a2), .unset, .unset, .unset, .unset] [(.ref b129), (.ref a1)]))
  obtain ⟨T141, h141, X141, e141, W141, st141⟩ := putF X129 hx hZ hown (host := "") (Or.inl (hw _ (List.mem_of_getElem? (i := 24) rfl))) Via.refl e129 F134 E_133 (Or.inr ⟨(hw _ (List.mem_of_getElem? (i := 25) rfl)), rfl, hnm⟩) (hw _ (List.mem_of_getElem? (i := 2) rfl)) (ty := (.array .int)) (by decide) rfl rfl (g := (mkF m 50 #[.val (.ref a1), .val (.ref a2), .unset, .unset, .unset, .unset] [(.ref b129), (.ref a1)])) rfl rfl (hb hby d1_50)
  refine Go.st st141 ?_
  have O142 : Old Z n0 h141 := O132.wr W141 g1
  have E_143 : Exa Z h141 a1 "com/example/gieres/gieres/model/TupleTable" := E_133.wr W141
  have F144 : Fld Z h141 a1 "com/example/gieres/gieres/model/TupleTable" "shift" "[I" .null := F135.other W141 (Or.inr (slot_ne (Or.inr (hw _ (List.mem_of_getElem? (i := 27) rfl))) (Or.inr (hw _ (List.mem_of_getElem? (i := 25) rfl))) (by decide) (t := (.array .int)) (t' := (.array .int)) (by decide) (by decide)))
  have F145 : Fld Z h141 a1 "com/example/gieres/gieres/model/TupleTable" "mask" "[J" .null := F136.other W141 (Or.inr (slot_ne (Or.inr (hw _ (List.mem_of_getElem? (i := 29) rfl))) (Or.inr (hw _ (List.mem_of_getElem? (i := 25) rfl))) (by decide) (t := (.array .long)) (t' := (.array .int)) (by decide) (by decide)))
  have F146 : Fld Z h141 a1 "com/example/gieres/gieres/model/TupleTable" "width" "I" (.int (0 : Int32)) := F137.other W141 (Or.inr (slot_ne (Or.inr (hw _ (List.mem_of_getElem? (i := 40) rfl))) (Or.inr (hw _ (List.mem_of_getElem? (i := 25) rfl))) (by decide) (t := .int) (t' := (.array .int)) (by decide) (by decide)))
  have V_147 : Arv Z h141 a2 ka2 .long (3 : Int32) [(.long t0), (.long t1), (.long t2)] (.long (0 : Int64)) := V_138.other W141 ne21
  have K148 : Keep h0 h141 [a1] := K139.wr W141 (Or.inl (List.mem_of_getElem? (i := 0) rfl))
  have V_149 : Arv Z h141 b129 k129 .int (3 : Int32) [(.int (0 : Int32)), (.int (0 : Int32)), (.int (0 : Int32))] (.int (0 : Int32)) := V_140.other W141 (Ne.symm ne130)
  have F150 : Fld Z h141 a1 "com/example/gieres/gieres/model/TupleTable" "word" "[I" (.ref b129) := F134.same W141
  have N141 := Fr.snoc X141 N117 g1
  show Go p e below _ (T141.setTop (mkF m 53 #[.val (.ref a1), .val (.ref a2), .unset, .unset, .unset, .unset] []))
  refine Go.st (fun _ => XS.aloadN X141.here hx rfl (hb hby d1_53) rfl rfl) ?_
  show Go p e below _ (T141.setTop (mkF m 54 #[.val (.ref a1), .val (.ref a2), .unset, .unset, .unset, .unset] [(.ref a1)]))
  refine Go.st (fun _ => XS.aloadN X141.here hx rfl (hb hby d1_54) rfl rfl) ?_
  show Go p e below _ (T141.setTop (mkF m 55 #[.val (.ref a1), .val (.ref a2), .unset, .unset, .unset, .unset] [(.ref a2), (.ref a1)]))
  obtain ⟨cl151, Ar151, qk151, Sz151, Nn151, Ha151, Ga151⟩ := id V_147
  refine Go.st (fun _ => X141.arraylength hx (by rw [e141]; exact Ar151.1) (State.isArrayOf_alike hZ.alike Ar151.2.1) (g := (mkF m 55 #[.val (.ref a1), .val (.ref a2), .unset, .unset, .unset, .unset] [(.ref a2), (.ref a1)])) rfl rfl (hb hby d1_55) _) ?_
  rw [len_of Sz151 Nn151]
  show Go p e below _ (T141.setTop (mkF m 56 #[.val (.ref a1), .val (.ref a2), .unset, .unset, .unset, .unset] [(.int (3 : Int32)), (.ref a1)]))
  obtain ⟨T152, h152, k152, X152, e152, E152, A152, st152⟩ := newP X141 hx hZ (hw _ (List.mem_of_getElem? (i := 17) rfl)) e141 (g := (mkF m 56 #[.val (.ref a1), .val (.ref a2), .unset, .unset, .unset, .unset] [(.int (3 : Int32)), (.ref a1)])) rfl (hb hby d1_56) rfl (by decide) (cap := 3) (by decide) (by decide) (by decide) (by decide)
  obtain ⟨b152, g152⟩ : ∃ z, z = h141.size := ⟨_, rfl⟩
  rw [← g152] at A152 st152
  refine Go.st st152 ?_
  have gn152 : n0 ≤ b152 := oldGe O142 g152
  have sz152 : h0.size ≤ b152 := Nat.le_trans K148.1 (Nat.le_of_eq g152.symm)
  have ne153 : a1 ≠ b152 := Nat.ne_of_lt (Nat.lt_of_lt_of_le E_143.lt (Nat.le_of_eq g152.symm))
  have ne154 : a2 ≠ b152 := Nat.ne_of_lt (Nat.lt_of_lt_of_le V_147.lt (Nat.le_of_eq g152.symm))
  have ne155 : b129 ≠ b152 := Nat.ne_of_lt (Nat.lt_of_lt_of_le V_149.lt (Nat.le_of_eq g152.symm))
  have O156 : Old Z n0 h152 := O142.ext E152
  have E_157 : Exa Z h152 a1 "com/example/gieres/gieres/model/TupleTable" := E_143.ext E152
  have F158 : Fld Z h152 a1 "com/example/gieres/gieres/model/TupleTable" "shift" "[I" .null := F144.ext E152
  have F159 : Fld Z h152 a1 "com/example/gieres/gieres/model/TupleTable" "mask" "[J" .null := F145.ext E152
  have F160 : Fld Z h152 a1 "com/example/gieres/gieres/model/TupleTable" "width" "I" (.int (0 : Int32)) := F146.ext E152
  have V_161 : Arv Z h152 a2 ka2 .long (3 : Int32) [(.long t0), (.long t1), (.long t2)] (.long (0 : Int64)) := V_147.ext E152
  have K162 : Keep h0 h152 [a1] := K148.ext E152
  have V_163 : Arv Z h152 b129 k129 .int (3 : Int32) [(.int (0 : Int32)), (.int (0 : Int32)), (.int (0 : Int32))] (.int (0 : Int32)) := V_149.ext E152
  have F164 : Fld Z h152 a1 "com/example/gieres/gieres/model/TupleTable" "word" "[I" (.ref b129) := F150.ext E152
  have V_165 : Arv Z h152 b152 k152 .int (3 : Int32) [(.int (0 : Int32)), (.int (0 : Int32)), (.int (0 : Int32))] (.int (0 : Int32)) := (Arv.new A152 (by decide)).pad (pad_rep [] (.int (0 : Int32)) 3)
  show Go p e below _ (T152.setTop (mkF m 58 #[.val (.ref a1), .val (.ref a2), .unset, .unset, .unset, .unset] [(.ref b152), (.ref a1)]))
  obtain ⟨T166, h166, X166, e166, W166, st166⟩ := putF X152 hx hZ hown (host := "") (Or.inl (hw _ (List.mem_of_getElem? (i := 26) rfl))) Via.refl e152 F158 E_157 (Or.inr ⟨(hw _ (List.mem_of_getElem? (i := 27) rfl)), rfl, hnm⟩) (hw _ (List.mem_of_getElem? (i := 2) rfl)) (ty := (.array .int)) (by decide) rfl rfl (g := (mkF m 58 #[.val (.ref a1), .val (.ref a2), .unset, .unset, .unset, .unset] [(.ref b152), (.ref a1)])) rfl rfl (hb hby d1_58)
  refine Go.st st166 ?_
  have O167 : Old Z n0 h166 := O156.wr W166 g1
  have E_168 : Exa Z h166 a1 "com/example/gieres/gieres/model/TupleTable" := E_157.wr W166
  have F169 : Fld Z h166 a1 "com/example/gieres/gieres/model/TupleTable" "mask" "[J" .null := F159.other W166 (Or.inr (slot_ne (Or.inr (hw _ (List.mem_of_getElem? (i := 29) rfl))) (Or.inr (hw _ (List.mem_of_getElem? (i := 27) rfl))) (by decide) (t := (.array .long)) (t' := (.array .int)) (by decide) (by decide)))
  have F170 : Fld Z h166 a1 "com/example/gieres/gieres/model/TupleTable" "width" "I" (.int (0 : Int32)) := F160.other W166 (Or.inr (slot_ne (Or.inr (hw _ (List.mem_of_getElem? (i := 40) rfl))) (Or.inr (hw _ (List.mem_of_getElem? (i := 27) rfl))) (by decide) (t := .int) (t' := (.array .int)) (by decide) (by decide)))
  have V_171 : Arv Z h166 a2 ka2 .long (3 : Int32) [(.long t0), (.long t1), (.long t2)] (.long (0 : Int64)) := V_161.other W166 ne21
  have K172 : Keep h0 h166 [a1] := K162.wr W166 (Or.inl (List.mem_of_getElem? (i := 0) rfl))
  have V_173 : Arv Z h166 b129 k129 .int (3 : Int32) [(.int (0 : Int32)), (.int (0 : Int32)), (.int (0 : Int32))] (.int (0 : Int32)) := V_163.other W166 (Ne.symm ne130)
  have F174 : Fld Z h166 a1 "com/example/gieres/gieres/model/TupleTable" "word" "[I" (.ref b129) := F164.other W166 (Or.inr (slot_ne (Or.inr (hw _ (List.mem_of_getElem? (i := 25) rfl))) (Or.inr (hw _ (List.mem_of_getElem? (i := 27) rfl))) (by decide) (t := (.array .int)) (t' := (.array .int)) (by decide) (by decide)))
  have V_175 : Arv Z h166 b152 k152 .int (3 : Int32) [(.int (0 : Int32)), (.int (0 : Int32)), (.int (0 : Int32))] (.int (0 : Int32)) := V_165.other W166 (Ne.symm ne153)
  have F176 : Fld Z h166 a1 "com/example/gieres/gieres/model/TupleTable" "shift" "[I" (.ref b152) := F158.same W166
  have N166 := Fr.snoc X166 N141 g1
  show Go p e below _ (T166.setTop (mkF m 61 #[.val (.ref a1), .val (.ref a2), .unset, .unset, .unset, .unset] []))
  refine Go.st (fun _ => XS.aloadN X166.here hx rfl (hb hby d1_61) rfl rfl) ?_
  show Go p e below _ (T166.setTop (mkF m 62 #[.val (.ref a1), .val (.ref a2), .unset, .unset, .unset, .unset] [(.ref a1)]))
  refine Go.st (fun _ => XS.aloadN X166.here hx rfl (hb hby d1_62) rfl rfl) ?_
  show Go p e below _ (T166.setTop (mkF m 63 #[.val (.ref a1), .val (.ref a2), .unset, .unset, .unset, .unset] [(.ref a2), (.ref a1)]))
  obtain ⟨cl177, Ar177, qk177, Sz177, Nn177, Ha177, Ga177⟩ := id V_171
  refine Go.st (fun _ => X166.arraylength hx (by rw [e166]; exact Ar177.1) (State.isArrayOf_alike hZ.alike Ar177.2.1) (g := (mkF m 63 #[.val (.ref a1), .val (.ref a2), .unset, .unset, .unset, .unset] [(.ref a2), (.ref a1)])) rfl rfl (hb hby d1_63) _) ?_
  rw [len_of Sz177 Nn177]
  show Go p e below _ (T166.setTop (mkF m 64 #[.val (.ref a1), .val (.ref a2), .unset, .unset, .unset, .unset] [(.int (3 : Int32)), (.ref a1)]))
  obtain ⟨T178, h178, k178, X178, e178, E178, A178, st178⟩ := newP X166 hx hZ (hw _ (List.mem_of_getElem? (i := 4) rfl)) e166 (g := (mkF m 64 #[.val (.ref a1), .val (.ref a2), .unset, .unset, .unset, .unset] [(.int (3 : Int32)), (.ref a1)])) rfl (hb hby d1_64) rfl (by decide) (cap := 3) (by decide) (by decide) (by decide) (by decide)
  obtain ⟨b178, g178⟩ : ∃ z, z = h166.size := ⟨_, rfl⟩
  rw [← g178] at A178 st178
  refine Go.st st178 ?_
  have gn178 : n0 ≤ b178 := oldGe O167 g178
  have sz178 : h0.size ≤ b178 := Nat.le_trans K172.1 (Nat.le_of_eq g178.symm)
  have ne179 : a1 ≠ b178 := Nat.ne_of_lt (Nat.lt_of_lt_of_le E_168.lt (Nat.le_of_eq g178.symm))
  have ne180 : a2 ≠ b178 := Nat.ne_of_lt (Nat.lt_of_lt_of_le V_171.lt (Nat.le_of_eq g178.symm))
  have ne181 : b129 ≠ b178 := Nat.ne_of_lt (Nat.lt_of_lt_of_le V_173.lt (Nat.le_of_eq g178.symm))
  have ne182 : b152 ≠ b178 := Nat.ne_of_lt (Nat.lt_of_lt_of_le V_175.lt (Nat.le_of_eq g178.symm))
  have O183 : Old Z n0 h178 := O167.ext E178
  have E_184 : Exa Z h178 a1 "com/example/gieres/gieres/model/TupleTable" := E_168.ext E178
  have F185 : Fld Z h178 a1 "com/example/gieres/gieres/model/TupleTable" "mask" "[J" .null := F169.ext E178
  have F186 : Fld Z h178 a1 "com/example/gieres/gieres/model/TupleTable" "width" "I" (.int (0 : Int32)) := F170.ext E178
  have V_187 : Arv Z h178 a2 ka2 .long (3 : Int32) [(.long t0), (.long t1), (.long t2)] (.long (0 : Int64)) := V_171.ext E178
  have K188 : Keep h0 h178 [a1] := K172.ext E178
  have V_189 : Arv Z h178 b129 k129 .int (3 : Int32) [(.int (0 : Int32)), (.int (0 : Int32)), (.int (0 : Int32))] (.int (0 : Int32)) := V_173.ext E178
  have F190 : Fld Z h178 a1 "com/example/gieres/gieres/model/TupleTable" "word" "[I" (.ref b129) := F174.ext E178
  have V_191 : Arv Z h178 b152 k152 .int (3 : Int32) [(.int (0 : Int32)), (.int (0 : Int32)), (.int (0 : Int32))] (.int (0 : Int32)) := V_175.ext E178
  have F192 : Fld Z h178 a1 "com/example/gieres/gieres/model/TupleTable" "shift" "[I" (.ref b152) := F176.ext E178
  have V_193 : Arv Z h178 b178 k178 .long (3 : Int32) [(.long (0 : Int64)), (.long (0 : Int64)), (.long (0 : Int64))] (.long (0 : Int64)) := (Arv.new A178 (by decide)).pad (pad_rep [] (.long (0 : Int64)) 3)
  show Go p e below _ (T178.setTop (mkF m 66 #[.val (.ref a1), .val (.ref a2), .unset, .unset, .unset, .unset] [(.ref b178), (.ref a1)]))
  obtain ⟨T194, h194, X194, e194, W194, st194⟩ := putF X178 hx hZ hown (host := "") (Or.inl (hw _ (List.mem_of_getElem? (i := 28) rfl))) Via.refl e178 F185 E_184 (Or.inr ⟨(hw _ (List.mem_of_getElem? (i := 29) rfl)), rfl, hnm⟩) (hw _ (List.mem_of_getElem? (i := 2) rfl)) (ty := (.array .long)) (by decide) rfl rfl (g := (mkF m 66 #[.val (.ref a1), .val (.ref a2), .unset, .unset, .unset, .unset] [(.ref b178), (.ref a1)])) rfl rfl (hb hby d1_66)
  refine Go.st st194 ?_
  have O195 : Old Z n0 h194 := O183.wr W194 g1
  have E_196 : Exa Z h194 a1 "com/example/gieres/gieres/model/TupleTable" := E_184.wr W194
  have F197 : Fld Z h194 a1 "com/example/gieres/gieres/model/TupleTable" "width" "I" (.int (0 : Int32)) := F186.other W194 (Or.inr (slot_ne (Or.inr (hw _ (List.mem_of_getElem? (i := 40) rfl))) (Or.inr (hw _ (List.mem_of_getElem? (i := 29) rfl))) (by decide) (t := .int) (t' := (.array .long)) (by decide) (by decide)))
  have V_198 : Arv Z h194 a2 ka2 .long (3 : Int32) [(.long t0), (.long t1), (.long t2)] (.long (0 : Int64)) := V_187.other W194 ne21
  have K199 : Keep h0 h194 [a1] := K188.wr W194 (Or.inl (List.mem_of_getElem? (i := 0) rfl))
  have V_200 : Arv Z h194 b129 k129 .int (3 : Int32) [(.int (0 : Int32)), (.int (0 : Int32)), (.int (0 : Int32))] (.int (0 : Int32)) := V_189.other W194 (Ne.symm ne130)
  have F201 : Fld Z h194 a1 "com/example/gieres/gieres/model/TupleTable" "word" "[I" (.ref b129) := F190.other W194 (Or.inr (slot_ne (Or.inr (hw _ (List.mem_of_getElem? (i := 25) rfl))) (Or.inr (hw _ (List.mem_of_getElem? (i := 29) rfl))) (by decide) (t := (.array .int)) (t' := (.array .long)) (by decide) (by decide)))
  have V_202 : Arv Z h194 b152 k152 .int (3 : Int32) [(.int (0 : Int32)), (.int (0 : Int32)), (.int (0 : Int32))] (.int (0 : Int32)) := V_191.other W194 (Ne.symm ne153)
  have F203 : Fld Z h194 a1 "com/example/gieres/gieres/model/TupleTable" "shift" "[I" (.ref b152) := F192.other W194 (Or.inr (slot_ne (Or.inr (hw _ (List.mem_of_getElem? (i := 27) rfl))) (Or.inr (hw _ (List.mem_of_getElem? (i := 29) rfl))) (by decide) (t := (.array .int)) (t' := (.array .long)) (by decide) (by decide)))
  have V_204 : Arv Z h194 b178 k178 .long (3 : Int32) [(.long (0 : Int64)), (.long (0 : Int64)), (.long (0 : Int64))] (.long (0 : Int64)) := V_193.other W194 (Ne.symm ne179)
  have F205 : Fld Z h194 a1 "com/example/gieres/gieres/model/TupleTable" "mask" "[J" (.ref b178) := F185.same W194
  have N194 := Fr.snoc X194 N166 g1
  show Go p e below _ (T194.setTop (mkF m 69 #[.val (.ref a1), .val (.ref a2), .unset, .unset, .unset, .unset] []))
  refine Go.st (fun _ => XS.iconst X194.here hx rfl (hb hby d1_69)) ?_
  show Go p e below _ (T194.setTop (mkF m 70 #[.val (.ref a1), .val (.ref a2), .unset, .unset, .unset, .unset] [(.int (1 : Int32))]))
  refine Go.st (fun _ => XS.istoreN X194.here hx rfl (hb hby d1_70) rfl (l' := #[.val (.ref a1), .val (.ref a2), .val (.int (1 : Int32)), .unset, .unset, .unset]) rfl) ?_
  show Go p e below _ (T194.setTop (mkF m 71 #[.val (.ref a1), .val (.ref a2), .val (.int (1 : Int32)), .unset, .unset, .unset] []))
  refine Go.st (fun _ => XS.iconst X194.here hx rfl (hb hby d1_71)) ?_
  show Go p e below _ (T194.setTop (mkF m 72 #[.val (.ref a1), .val (.ref a2), .val (.int (1 : Int32)), .unset, .unset, .unset] [(.int (0 : Int32))]))
  refine Go.st (fun _ => XS.istoreN X194.here hx rfl (hb hby d1_72) rfl (l' := #[.val (.ref a1), .val (.ref a2), .val (.int (1 : Int32)), .val (.int (0 : Int32)), .unset, .unset]) rfl) ?_
  show Go p e below _ (T194.setTop (mkF m 73 #[.val (.ref a1), .val (.ref a2), .val (.int (1 : Int32)), .val (.int (0 : Int32)), .unset, .unset] []))
  refine Go.st (fun _ => XS.iconst X194.here hx rfl (hb hby d1_73)) ?_
  show Go p e below _ (T194.setTop (mkF m 74 #[.val (.ref a1), .val (.ref a2), .val (.int (1 : Int32)), .val (.int (0 : Int32)), .unset, .unset] [(.int (0 : Int32))]))
  refine Go.st (fun _ => XS.istore X194.here hx rfl (hb hby d1_74) rfl (l' := #[.val (.ref a1), .val (.ref a2), .val (.int (1 : Int32)), .val (.int (0 : Int32)), .val (.int (0 : Int32)), .unset]) rfl) ?_
  show Go p e below _ (T194.setTop (mkF m 76 #[.val (.ref a1), .val (.ref a2), .val (.int (1 : Int32)), .val (.int (0 : Int32)), .val (.int (0 : Int32)), .unset] []))
  refine Go.st (fun _ => XS.iload X194.here hx rfl (hb hby d1_76) rfl) ?_
  show Go p e below _ (T194.setTop (mkF m 78 #[.val (.ref a1), .val (.ref a2), .val (.int (1 : Int32)), .val (.int (0 : Int32)), .val (.int (0 : Int32)), .unset] [(.int (0 : Int32))]))
  refine Go.st (fun _ => XS.aloadN X194.here hx rfl (hb hby d1_78) rfl rfl) ?_
  show Go p e below _ (T194.setTop (mkF m 79 #[.val (.ref a1), .val (.ref a2), .val (.int (1 : Int32)), .val (.int (0 : Int32)), .val (.int (0 : Int32)), .unset] [(.ref a2), (.int (0 : Int32))]))
  obtain ⟨cl206, Ar206, qk206, Sz206, Nn206, Ha206, Ga206⟩ := id V_198
  refine Go.st (fun _ => X194.arraylength hx (by rw [e194]; exact Ar206.1) (State.isArrayOf_alike hZ.alike Ar206.2.1) (g := (mkF m 79 #[.val (.ref a1), .val (.ref a2), .val (.int (1 : Int32)), .val (.int (0 : Int32)), .val (.int (0 : Int32)), .unset] [(.ref a2), (.int (0 : Int32))])) rfl rfl (hb hby d1_79) _) ?_
  rw [len_of Sz206 Nn206]
  show Go p e below _ (T194.setTop (mkF m 80 #[.val (.ref a1), .val (.ref a2), .val (.int (1 : Int32)), .val (.int (0 : Int32)), .val (.int (0 : Int32)), .unset] [(.int (3 : Int32)), (.int (0 : Int32))]))
  refine Go.st (fun _ => XS.icmpNo X194.here hx rfl (hb hby d1_80) rfl (tlt (by decide : (0 : Int32) < (3 : Int32))).2.1) ?_
  show Go p e below _ (T194.setTop (mkF m 83 #[.val (.ref a1), .val (.ref a2), .val (.int (1 : Int32)), .val (.int (0 : Int32)), .val (.int (0 : Int32)), .unset] []))
  refine Go.st (fun _ => XS.bipush X194.here hx rfl (hb hby d1_83)) ?_
  show Go p e below _ (T194.setTop (mkF m 85 #[.val (.ref a1), .val (.ref a2), .val (.int (1 : Int32)), .val (.int (0 : Int32)), .val (.int (0 : Int32)), .unset] [(.int (64 : Int32))]))
  refine Go.st (fun _ => XS.aloadN X194.here hx rfl (hb hby d1_85) rfl rfl) ?_
  show Go p e below _ (T194.setTop (mkF m 86 #[.val (.ref a1), .val (.ref a2), .val (.int (1 : Int32)), .val (.int (0 : Int32)), .val (.int (0 : Int32)), .unset] [(.ref a2), (.int (64 : Int32))]))
  refine Go.st (fun _ => XS.iload X194.here hx rfl (hb hby d1_86) rfl) ?_
  show Go p e below _ (T194.setTop (mkF m 88 #[.val (.ref a1), .val (.ref a2), .val (.int (1 : Int32)), .val (.int (0 : Int32)), .val (.int (0 : Int32)), .unset] [(.int (0 : Int32)), (.ref a2), (.int (64 : Int32))]))
  obtain ⟨cl207, Ar207, qk207, Sz207, Nn207, Ha207, Ga207⟩ := id V_198
  have hin207 : ¬ ((0 : Int32) < 0 ∨ cl207.slots.size ≤ ((0 : Int32) : Int32).toNatClampNeg) := inb_of Sz207 ⟨by decide, by decide⟩
  refine Go.st (fun _ => X194.laload hx (j := (0 : Int32)) (v := (.long t0)) (by rw [e194]; exact Ar207.1) (State.isArrayOf_alike hZ.alike Ar207.2.1) Ar207.2.2 hin207 (Has.at Ha207 hin207 rfl) (g := (mkF m 88 #[.val (.ref a1), .val (.ref a2), .val (.int (1 : Int32)), .val (.int (0 : Int32)), .val (.int (0 : Int32)), .unset] [(.int (0 : Int32)), (.ref a2), (.int (64 : Int32))])) rfl rfl (hb hby d1_88) _) ?_
  show Go p e below _ (T194.setTop (mkF m 89 #[.val (.ref a1), .val (.ref a2), .val (.int (1 : Int32)), .val (.int (0 : Int32)), .val (.int (0 : Int32)), .unset] [(.long t0), (.int (64 : Int32))]))
  refine Go.st (fun _ => XS.lconst X194.here hx rfl (hb hby d1_89)) ?_
  show Go p e below _ (T194.setTop (mkF m 90 #[.val (.ref a1), .val (.ref a2), .val (.int (1 : Int32)), .val (.int (0 : Int32)), .val (.int (0 : Int32)), .unset] [(.long (1 : Int64)), (.long t0), (.int (64 : Int32))]))
  refine Go.st (fun _ => XS.lsub X194.here hx rfl (hb hby d1_90) rfl) ?_
  show Go p e below _ (T194.setTop (mkF m 91 #[.val (.ref a1), .val (.ref a2), .val (.int (1 : Int32)), .val (.int (0 : Int32)), .val (.int (0 : Int32)), .unset] [(.long (t0 - (1 : Int64))), (.int (64 : Int32))]))
  refine goCallS X194 hx hZ (y := (⟨"java/lang/Long", "numberOfLeadingZeros", "(J)I"⟩ : MethodName)) hown (hw _ (List.mem_of_getElem? (i := 30) rfl)) (hw _ (List.mem_of_getElem? (i := 31) rfl)) (hw _ (List.mem_of_getElem? (i := 32) rfl)) (hw _ (List.mem_of_getElem? (i := 33) rfl)) (by decide) (argsL := [(.long (t0 - (1 : Int64)))]) (rest := [(.int (64 : Int32))]) e194 (rmN64 l Z a0 hw [] (t0 - (1 : Int64)) h194 n0 O195) 1 (by decide) (by decide) (by decide) (by decide) (mkF m 91 #[.val (.ref a1), .val (.ref a2), .val (.int (1 : Int32)), .val (.int (0 : Int32)), .val (.int (0 : Int32)), .unset] [(.long (t0 - (1 : Int64))), (.int (64 : Int32))]) rfl (by rw [hml]; rfl) (lenOf pd_1 rfl) rfl (hb hby d1_91) (Nat.le_of_eq rfl) ?_
  intro v208 T208 L208 X208 hQ208
  obtain ⟨⟨z208, rfl, hN208⟩, M208, e208⟩ := hQ208
  have N208 := Fr.app N194 M208
  show Go p e below _ (T208.setTop (mkF m 94 #[.val (.ref a1), .val (.ref a2), .val (.int (1 : Int32)), .val (.int (0 : Int32)), .val (.int (0 : Int32)), .unset] [(.int z208), (.int (64 : Int32))]))
  refine Go.st (fun _ => XS.isub X208.here hx rfl (hb hby d1_94) rfl) ?_
  show Go p e below _ (T208.setTop (mkF m 95 #[.val (.ref a1), .val (.ref a2), .val (.int (1 : Int32)), .val (.int (0 : Int32)), .val (.int (0 : Int32)), .unset] [(.int ((64 : Int32) - z208))]))
  obtain ⟨c0, hc0, B0⟩ := own_bits_of hN208 ht0
  rw [hc0]
  show Go p e below _ (T208.setTop (mkF m 95 #[.val (.ref a1), .val (.ref a2), .val (.int (1 : Int32)), .val (.int (0 : Int32)), .val (.int (0 : Int32)), .unset] [(.int c0)]))
  refine Go.st (fun _ => XS.istore X208.here hx rfl (hb hby d1_95) rfl (l' := #[.val (.ref a1), .val (.ref a2), .val (.int (1 : Int32)), .val (.int (0 : Int32)), .val (.int (0 : Int32)), .val (.int c0)]) rfl) ?_
  show Go p e below _ (T208.setTop (mkF m 97 #[.val (.ref a1), .val (.ref a2), .val (.int (1 : Int32)), .val (.int (0 : Int32)), .val (.int (0 : Int32)), .val (.int c0)] []))
  refine Go.st (fun _ => XS.iloadN X208.here hx rfl (hb hby d1_97) rfl) ?_
  show Go p e below _ (T208.setTop (mkF m 98 #[.val (.ref a1), .val (.ref a2), .val (.int (1 : Int32)), .val (.int (0 : Int32)), .val (.int (0 : Int32)), .val (.int c0)] [(.int (0 : Int32))]))
  refine Go.st (fun _ => XS.iload X208.here hx rfl (hb hby d1_98) rfl) ?_
  show Go p e below _ (T208.setTop (mkF m 100 #[.val (.ref a1), .val (.ref a2), .val (.int (1 : Int32)), .val (.int (0 : Int32)), .val (.int (0 : Int32)), .val (.int c0)] [(.int c0), (.int (0 : Int32))]))
  refine Go.st (fun _ => XS.iadd X208.here hx rfl (hb hby d1_100) rfl) ?_
  show Go p e below _ (T208.setTop (mkF m 101 #[.val (.ref a1), .val (.ref a2), .val (.int (1 : Int32)), .val (.int (0 : Int32)), .val (.int (0 : Int32)), .val (.int c0)] [(.int ((0 : Int32) + c0))]))
  refine Go.st (fun _ => XS.bipush X208.here hx rfl (hb hby d1_101)) ?_
  show Go p e below _ (T208.setTop (mkF m 103 #[.val (.ref a1), .val (.ref a2), .val (.int (1 : Int32)), .val (.int (0 : Int32)), .val (.int (0 : Int32)), .val (.int c0)] [(.int (64 : Int32)), (.int ((0 : Int32) + c0))]))
  refine Go.st (fun _ => XS.icmpYes X208.here hx rfl (pc0 := 103) (pc' := 111) rfl (hb hby d1_103) rfl (flt (by rw [Int32.zero_add]; exact own_le64' B0)).2.2.2 (by decide) (by decide)) ?_
  show Go p e below _ (T208.setTop (mkF m 111 #[.val (.ref a1), .val (.ref a2), .val (.int (1 : Int32)), .val (.int (0 : Int32)), .val (.int (0 : Int32)), .val (.int c0)] []))
  refine Go.st (fun _ => XS.aloadN X208.here hx rfl (hb hby d1_111) rfl rfl) ?_
  show Go p e below _ (T208.setTop (mkF m 112 #[.val (.ref a1), .val (.ref a2), .val (.int (1 : Int32)), .val (.int (0 : Int32)), .val (.int (0 : Int32)), .val (.int c0)] [(.ref a1)]))
  obtain ⟨T209, X209, e209, st209⟩ := getF X208 hx hZ hown (host := "") (Or.inl (hw _ (List.mem_of_getElem? (i := 24) rfl))) Via.refl e208 F201 (g := (mkF m 112 #[.val (.ref a1), .val (.ref a2), .val (.int (1 : Int32)), .val (.int (0 : Int32)), .val (.int (0 : Int32)), .val (.int c0)] [(.ref a1)])) rfl rfl (hb hby d1_112)
  refine Go.st st209 ?_
  show Go p e below _ (T209.setTop (mkF m 115 #[.val (.ref a1), .val (.ref a2), .val (.int (1 : Int32)), .val (.int (0 : Int32)), .val (.int (0 : Int32)), .val (.int c0)] [(.ref b129)]))
  refine Go.st (fun _ => XS.iload X209.here hx rfl (hb hby d1_115) rfl) ?_
  show Go p e below _ (T209.setTop (mkF m 117 #[.val (.ref a1), .val (.ref a2), .val (.int (1 : Int32)), .val (.int (0 : Int32)), .val (.int (0 : Int32)), .val (.int c0)] [(.int (0 : Int32)), (.ref b129)]))
  refine Go.st (fun _ => XS.iloadN X209.here hx rfl (hb hby d1_117) rfl) ?_
  show Go p e below _ (T209.setTop (mkF m 118 #[.val (.ref a1), .val (.ref a2), .val (.int (1 : Int32)), .val (.int (0 : Int32)), .val (.int (0 : Int32)), .val (.int c0)] [(.int (1 : Int32)), (.int (0 : Int32)), (.ref b129)]))
  refine Go.st (fun _ => XS.iconst X209.here hx rfl (hb hby d1_118)) ?_
  show Go p e below _ (T209.setTop (mkF m 119 #[.val (.ref a1), .val (.ref a2), .val (.int (1 : Int32)), .val (.int (0 : Int32)), .val (.int (0 : Int32)), .val (.int c0)] [(.int (1 : Int32)), (.int (1 : Int32)), (.int (0 : Int32)), (.ref b129)]))
  refine Go.st (fun _ => XS.isub X209.here hx rfl (hb hby d1_119) rfl) ?_
  show Go p e below _ (T209.setTop (mkF m 120 #[.val (.ref a1), .val (.ref a2), .val (.int (1 : Int32)), .val (.int (0 : Int32)), .val (.int (0 : Int32)), .val (.int c0)] [(.int (0 : Int32)), (.int (0 : Int32)), (.ref b129)]))
  obtain ⟨cl210, Ar210, qk210, Sz210, Nn210, Ha210, Ga210⟩ := id V_200
  have hin210 : ¬ ((0 : Int32) < 0 ∨ cl210.slots.size ≤ ((0 : Int32) : Int32).toNatClampNeg) := inb_of Sz210 ⟨by decide, by decide⟩
  obtain ⟨T210, h210, X210, e210, W210, st210⟩ := stI X209 hx hZ e209 Ar210 (j := (0 : Int32)) hin210 (g := (mkF m 120 #[.val (.ref a1), .val (.ref a2), .val (.int (1 : Int32)), .val (.int (0 : Int32)), .val (.int (0 : Int32)), .val (.int c0)] [(.int (0 : Int32)), (.int (0 : Int32)), (.ref b129)])) rfl rfl (hb hby d1_120)
  refine Go.st st210 ?_
  have O211 : Old Z n0 h210 := O195.wr W210 gn129
  have E_212 : Exa Z h210 a1 "com/example/gieres/gieres/model/TupleTable" := E_196.wr W210
  have F213 : Fld Z h210 a1 "com/example/gieres/gieres/model/TupleTable" "width" "I" (.int (0 : Int32)) := F197.other W210 (Or.inl ne130)
  have V_214 : Arv Z h210 a2 ka2 .long (3 : Int32) [(.long t0), (.long t1), (.long t2)] (.long (0 : Int64)) := V_198.other W210 ne131
  have K215 : Keep h0 h210 [a1] := K199.wr W210 (Or.inr sz129)
  have F216 : Fld Z h210 a1 "com/example/gieres/gieres/model/TupleTable" "word" "[I" (.ref b129) := F201.other W210 (Or.inl ne130)
  have V_217 : Arv Z h210 b152 k152 .int (3 : Int32) [(.int (0 : Int32)), (.int (0 : Int32)), (.int (0 : Int32))] (.int (0 : Int32)) := V_202.other W210 (Ne.symm ne155)
  have F218 : Fld Z h210 a1 "com/example/gieres/gieres/model/TupleTable" "shift" "[I" (.ref b152) := F203.other W210 (Or.inl ne130)
  have V_219 : Arv Z h210 b178 k178 .long (3 : Int32) [(.long (0 : Int64)), (.long (0 : Int64)), (.long (0 : Int64))] (.long (0 : Int64)) := V_204.other W210 (Ne.symm ne181)
  have F220 : Fld Z h210 a1 "com/example/gieres/gieres/model/TupleTable" "mask" "[J" (.ref b178) := F205.other W210 (Or.inl ne130)
  have V_221 : Arv Z h210 b129 k129 .int (3 : Int32) [(.int (0 : Int32)), (.int (0 : Int32)), (.int (0 : Int32))] (.int (0 : Int32)) := Arv.set Ar210 qk210 Sz210 Nn210 Ha210 Ga210 rfl W210 0 rfl (Nat.le_of_ble_eq_true rfl)
  have N210 := Fr.snoc X210 N208 gn129
  show Go p e below _ (T210.setTop (mkF m 121 #[.val (.ref a1), .val (.ref a2), .val (.int (1 : Int32)), .val (.int (0 : Int32)), .val (.int (0 : Int32)), .val (.int c0)] []))
  refine Go.st (fun _ => XS.aloadN X210.here hx rfl (hb hby d1_121) rfl rfl) ?_
  show Go p e below _ (T210.setTop (mkF m 122 #[.val (.ref a1), .val (.ref a2), .val (.int (1 : Int32)), .val (.int (0 : Int32)), .val (.int (0 : Int32)), .val (.int c0)] [(.ref a1)]))
  obtain ⟨T222, X222, e222, st222⟩ := getF X210 hx hZ hown (host := "") (Or.inl (hw _ (List.mem_of_getElem? (i := 26) rfl))) Via.refl e210 F218 (g := (mkF m 122 #[.val (.ref a1), .val (.ref a2), .val (.int (1 : Int32)), .val (.int (0 : Int32)), .val (.int (0 : Int32)), .val (.int c0)] [(.ref a1)])) rfl rfl (hb hby d1_122)
  refine Go.st st222 ?_
  show Go p e below _ (T222.setTop (mkF m 125 #[.val (.ref a1), .val (.ref a2), .val (.int (1 : Int32)), .val (.int (0 : Int32)), .val (.int (0 : Int32)), .val (.int c0)] [(.ref b152)]))
  refine Go.st (fun _ => XS.iload X222.here hx rfl (hb hby d1_125) rfl) ?_
  show Go p e below _ (T222.setTop (mkF m 127 #[.val (.ref a1), .val (.ref a2), .val (.int (1 : Int32)), .val (.int (0 : Int32)), .val (.int (0 : Int32)), .val (.int c0)] [(.int (0 : Int32)), (.ref b152)]))
  refine Go.st (fun _ => XS.iloadN X222.here hx rfl (hb hby d1_127) rfl) ?_
  show Go p e below _ (T222.setTop (mkF m 128 #[.val (.ref a1), .val (.ref a2), .val (.int (1 : Int32)), .val (.int (0 : Int32)), .val (.int (0 : Int32)), .val (.int c0)] [(.int (0 : Int32)), (.int (0 : Int32)), (.ref b152)]))
  obtain ⟨cl223, Ar223, qk223, Sz223, Nn223, Ha223, Ga223⟩ := id V_217
  have hin223 : ¬ ((0 : Int32) < 0 ∨ cl223.slots.size ≤ ((0 : Int32) : Int32).toNatClampNeg) := inb_of Sz223 ⟨by decide, by decide⟩
  obtain ⟨T223, h223, X223, e223, W223, st223⟩ := stI X222 hx hZ e222 Ar223 (j := (0 : Int32)) hin223 (g := (mkF m 128 #[.val (.ref a1), .val (.ref a2), .val (.int (1 : Int32)), .val (.int (0 : Int32)), .val (.int (0 : Int32)), .val (.int c0)] [(.int (0 : Int32)), (.int (0 : Int32)), (.ref b152)])) rfl rfl (hb hby d1_128)
  refine Go.st st223 ?_
  have O224 : Old Z n0 h223 := O211.wr W223 gn152
  have E_225 : Exa Z h223 a1 "com/example/gieres/gieres/model/TupleTable" := E_212.wr W223
  have F226 : Fld Z h223 a1 "com/example/gieres/gieres/model/TupleTable" "width" "I" (.int (0 : Int32)) := F213.other W223 (Or.inl ne153)
  have V_227 : Arv Z h223 a2 ka2 .long (3 : Int32) [(.long t0), (.long t1), (.long t2)] (.long (0 : Int64)) := V_214.other W223 ne154
  have K228 : Keep h0 h223 [a1] := K215.wr W223 (Or.inr sz152)
  have F229 : Fld Z h223 a1 "com/example/gieres/gieres/model/TupleTable" "word" "[I" (.ref b129) := F216.other W223 (Or.inl ne153)
  have F230 : Fld Z h223 a1 "com/example/gieres/gieres/model/TupleTable" "shift" "[I" (.ref b152) := F218.other W223 (Or.inl ne153)
  have V_231 : Arv Z h223 b178 k178 .long (3 : Int32) [(.long (0 : Int64)), (.long (0 : Int64)), (.long (0 : Int64))] (.long (0 : Int64)) := V_219.other W223 (Ne.symm ne182)
  have F232 : Fld Z h223 a1 "com/example/gieres/gieres/model/TupleTable" "mask" "[J" (.ref b178) := F220.other W223 (Or.inl ne153)
  have V_233 : Arv Z h223 b129 k129 .int (3 : Int32) [(.int (0 : Int32)), (.int (0 : Int32)), (.int (0 : Int32))] (.int (0 : Int32)) := V_221.other W223 ne155
  have V_234 : Arv Z h223 b152 k152 .int (3 : Int32) [(.int (0 : Int32)), (.int (0 : Int32)), (.int (0 : Int32))] (.int (0 : Int32)) := Arv.set Ar223 qk223 Sz223 Nn223 Ha223 Ga223 rfl W223 0 rfl (Nat.le_of_ble_eq_true rfl)
  have N223 := Fr.snoc X223 N210 gn152
  show Go p e below _ (T223.setTop (mkF m 129 #[.val (.ref a1), .val (.ref a2), .val (.int (1 : Int32)), .val (.int (0 : Int32)), .val (.int (0 : Int32)), .val (.int c0)] []))
  refine Go.st (fun _ => XS.aloadN X223.here hx rfl (hb hby d1_129) rfl rfl) ?_
  show Go p e below _ (T223.setTop (mkF m 130 #[.val (.ref a1), .val (.ref a2), .val (.int (1 : Int32)), .val (.int (0 : Int32)), .val (.int (0 : Int32)), .val (.int c0)] [(.ref a1)]))
  obtain ⟨T235, X235, e235, st235⟩ := getF X223 hx hZ hown (host := "") (Or.inl (hw _ (List.mem_of_getElem? (i := 28) rfl))) Via.refl e223 F232 (g := (mkF m 130 #[.val (.ref a1), .val (.ref a2), .val (.int (1 : Int32)), .val (.int (0 : Int32)), .val (.int (0 : Int32)), .val (.int c0)] [(.ref a1)])) rfl rfl (hb hby d1_130)
  refine Go.st st235 ?_
  show Go p e below _ (T235.setTop (mkF m 133 #[.val (.ref a1), .val (.ref a2), .val (.int (1 : Int32)), .val (.int (0 : Int32)), .val (.int (0 : Int32)), .val (.int c0)] [(.ref b178)]))
  refine Go.st (fun _ => XS.iload X235.here hx rfl (hb hby d1_133) rfl) ?_
  show Go p e below _ (T235.setTop (mkF m 135 #[.val (.ref a1), .val (.ref a2), .val (.int (1 : Int32)), .val (.int (0 : Int32)), .val (.int (0 : Int32)), .val (.int c0)] [(.int (0 : Int32)), (.ref b178)]))
  refine Go.st (fun _ => XS.lconst X235.here hx rfl (hb hby d1_135)) ?_
  show Go p e below _ (T235.setTop (mkF m 136 #[.val (.ref a1), .val (.ref a2), .val (.int (1 : Int32)), .val (.int (0 : Int32)), .val (.int (0 : Int32)), .val (.int c0)] [(.long (1 : Int64)), (.int (0 : Int32)), (.ref b178)]))
  refine Go.st (fun _ => XS.iload X235.here hx rfl (hb hby d1_136) rfl) ?_
  show Go p e below _ (T235.setTop (mkF m 138 #[.val (.ref a1), .val (.ref a2), .val (.int (1 : Int32)), .val (.int (0 : Int32)), .val (.int (0 : Int32)), .val (.int c0)] [(.int c0), (.long (1 : Int64)), (.int (0 : Int32)), (.ref b178)]))
  refine Go.st (fun _ => XS.lshl X235.here hx rfl (hb hby d1_138) rfl) ?_
  show Go p e below _ (T235.setTop (mkF m 139 #[.val (.ref a1), .val (.ref a2), .val (.int (1 : Int32)), .val (.int (0 : Int32)), .val (.int (0 : Int32)), .val (.int c0)] [(.long ((1 : Int64) <<< (c0 &&& 0x3f).toInt64)), (.int (0 : Int32)), (.ref b178)]))
  refine Go.st (fun _ => XS.lconst X235.here hx rfl (hb hby d1_139)) ?_
  show Go p e below _ (T235.setTop (mkF m 140 #[.val (.ref a1), .val (.ref a2), .val (.int (1 : Int32)), .val (.int (0 : Int32)), .val (.int (0 : Int32)), .val (.int c0)] [(.long (1 : Int64)), (.long ((1 : Int64) <<< (c0 &&& 0x3f).toInt64)), (.int (0 : Int32)), (.ref b178)]))
  refine Go.st (fun _ => XS.lsub X235.here hx rfl (hb hby d1_140) rfl) ?_
  show Go p e below _ (T235.setTop (mkF m 141 #[.val (.ref a1), .val (.ref a2), .val (.int (1 : Int32)), .val (.int (0 : Int32)), .val (.int (0 : Int32)), .val (.int c0)] [(.long (((1 : Int64) <<< (c0 &&& 0x3f).toInt64) - (1 : Int64))), (.int (0 : Int32)), (.ref b178)]))
  obtain ⟨cl236, Ar236, qk236, Sz236, Nn236, Ha236, Ga236⟩ := id V_231
  have hin236 : ¬ ((0 : Int32) < 0 ∨ cl236.slots.size ≤ ((0 : Int32) : Int32).toNatClampNeg) := inb_of Sz236 ⟨by decide, by decide⟩
  obtain ⟨T236, h236, X236, e236, W236, st236⟩ := stJ X235 hx hZ e235 Ar236 (j := (0 : Int32)) hin236 (g := (mkF m 141 #[.val (.ref a1), .val (.ref a2), .val (.int (1 : Int32)), .val (.int (0 : Int32)), .val (.int (0 : Int32)), .val (.int c0)] [(.long (((1 : Int64) <<< (c0 &&& 0x3f).toInt64) - (1 : Int64))), (.int (0 : Int32)), (.ref b178)])) rfl rfl (hb hby d1_141)
  refine Go.st st236 ?_
  have O237 : Old Z n0 h236 := O224.wr W236 gn178
  have E_238 : Exa Z h236 a1 "com/example/gieres/gieres/model/TupleTable" := E_225.wr W236
  have F239 : Fld Z h236 a1 "com/example/gieres/gieres/model/TupleTable" "width" "I" (.int (0 : Int32)) := F226.other W236 (Or.inl ne179)
  have V_240 : Arv Z h236 a2 ka2 .long (3 : Int32) [(.long t0), (.long t1), (.long t2)] (.long (0 : Int64)) := V_227.other W236 ne180
  have K241 : Keep h0 h236 [a1] := K228.wr W236 (Or.inr sz178)
  have F242 : Fld Z h236 a1 "com/example/gieres/gieres/model/TupleTable" "word" "[I" (.ref b129) := F229.other W236 (Or.inl ne179)
  have F243 : Fld Z h236 a1 "com/example/gieres/gieres/model/TupleTable" "shift" "[I" (.ref b152) := F230.other W236 (Or.inl ne179)
  have F244 : Fld Z h236 a1 "com/example/gieres/gieres/model/TupleTable" "mask" "[J" (.ref b178) := F232.other W236 (Or.inl ne179)
  have V_245 : Arv Z h236 b129 k129 .int (3 : Int32) [(.int (0 : Int32)), (.int (0 : Int32)), (.int (0 : Int32))] (.int (0 : Int32)) := V_233.other W236 ne181
  have V_246 : Arv Z h236 b152 k152 .int (3 : Int32) [(.int (0 : Int32)), (.int (0 : Int32)), (.int (0 : Int32))] (.int (0 : Int32)) := V_234.other W236 ne182
  have V_247 : Arv Z h236 b178 k178 .long (3 : Int32) [(.long (((1 : Int64) <<< (c0 &&& 0x3f).toInt64) - (1 : Int64))), (.long (0 : Int64)), (.long (0 : Int64))] (.long (0 : Int64)) := Arv.set Ar236 qk236 Sz236 Nn236 Ha236 Ga236 rfl W236 0 rfl (Nat.le_of_ble_eq_true rfl)
  have N236 := Fr.snoc X236 N223 gn178
  show Go p e below _ (T236.setTop (mkF m 142 #[.val (.ref a1), .val (.ref a2), .val (.int (1 : Int32)), .val (.int (0 : Int32)), .val (.int (0 : Int32)), .val (.int c0)] []))
  refine Go.st (fun _ => XS.iloadN X236.here hx rfl (hb hby d1_142) rfl) ?_
  show Go p e below _ (T236.setTop (mkF m 143 #[.val (.ref a1), .val (.ref a2), .val (.int (1 : Int32)), .val (.int (0 : Int32)), .val (.int (0 : Int32)), .val (.int c0)] [(.int (0 : Int32))]))
  refine Go.st (fun _ => XS.iload X236.here hx rfl (hb hby d1_143) rfl) ?_
  show Go p e below _ (T236.setTop (mkF m 145 #[.val (.ref a1), .val (.ref a2), .val (.int (1 : Int32)), .val (.int (0 : Int32)), .val (.int (0 : Int32)), .val (.int c0)] [(.int c0), (.int (0 : Int32))]))
  refine Go.st (fun _ => XS.iadd X236.here hx rfl (hb hby d1_145) rfl) ?_
  show Go p e below _ (T236.setTop (mkF m 146 #[.val (.ref a1), .val (.ref a2), .val (.int (1 : Int32)), .val (.int (0 : Int32)), .val (.int (0 : Int32)), .val (.int c0)] [(.int ((0 : Int32) + c0))]))
  rw [Int32.zero_add]
  show Go p e below _ (T236.setTop (mkF m 146 #[.val (.ref a1), .val (.ref a2), .val (.int (1 : Int32)), .val (.int (0 : Int32)), .val (.int (0 : Int32)), .val (.int c0)] [(.int c0)]))
  refine Go.st (fun _ => XS.istoreN X236.here hx rfl (hb hby d1_146) rfl (l' := #[.val (.ref a1), .val (.ref a2), .val (.int (1 : Int32)), .val (.int c0), .val (.int (0 : Int32)), .val (.int c0)]) rfl) ?_
  show Go p e below _ (T236.setTop (mkF m 147 #[.val (.ref a1), .val (.ref a2), .val (.int (1 : Int32)), .val (.int c0), .val (.int (0 : Int32)), .val (.int c0)] []))
  refine Go.st (fun _ => XS.iinc X236.here hx rfl (hb hby d1_147) rfl (l' := #[.val (.ref a1), .val (.ref a2), .val (.int (1 : Int32)), .val (.int c0), .val (.int (1 : Int32)), .val (.int c0)]) rfl) ?_
  show Go p e below _ (T236.setTop (mkF m 150 #[.val (.ref a1), .val (.ref a2), .val (.int (1 : Int32)), .val (.int c0), .val (.int (1 : Int32)), .val (.int c0)] []))
  refine Go.st (fun _ => XS.goto X236.here hx rfl (pc0 := 150) (pc' := 76) rfl (hb hby d1_150) (by decide) (by decide)) ?_
  show Go p e below _ (T236.setTop (mkF m 76 #[.val (.ref a1), .val (.ref a2), .val (.int (1 : Int32)), .val (.int c0), .val (.int (1 : Int32)), .val (.int c0)] []))
  refine Go.st (fun _ => XS.iload X236.here hx rfl (hb hby d1_76) rfl) ?_
  show Go p e below _ (T236.setTop (mkF m 78 #[.val (.ref a1), .val (.ref a2), .val (.int (1 : Int32)), .val (.int c0), .val (.int (1 : Int32)), .val (.int c0)] [(.int (1 : Int32))]))
  refine Go.st (fun _ => XS.aloadN X236.here hx rfl (hb hby d1_78) rfl rfl) ?_
  show Go p e below _ (T236.setTop (mkF m 79 #[.val (.ref a1), .val (.ref a2), .val (.int (1 : Int32)), .val (.int c0), .val (.int (1 : Int32)), .val (.int c0)] [(.ref a2), (.int (1 : Int32))]))
  obtain ⟨cl248, Ar248, qk248, Sz248, Nn248, Ha248, Ga248⟩ := id V_240
  refine Go.st (fun _ => X236.arraylength hx (by rw [e236]; exact Ar248.1) (State.isArrayOf_alike hZ.alike Ar248.2.1) (g := (mkF m 79 #[.val (.ref a1), .val (.ref a2), .val (.int (1 : Int32)), .val (.int c0), .val (.int (1 : Int32)), .val (.int c0)] [(.ref a2), (.int (1 : Int32))])) rfl rfl (hb hby d1_79) _) ?_
  rw [len_of Sz248 Nn248]
  show Go p e below _ (T236.setTop (mkF m 80 #[.val (.ref a1), .val (.ref a2), .val (.int (1 : Int32)), .val (.int c0), .val (.int (1 : Int32)), .val (.int c0)] [(.int (3 : Int32)), (.int (1 : Int32))]))
  refine Go.st (fun _ => XS.icmpNo X236.here hx rfl (hb hby d1_80) rfl (tlt (by decide : (1 : Int32) < (3 : Int32))).2.1) ?_
  show Go p e below _ (T236.setTop (mkF m 83 #[.val (.ref a1), .val (.ref a2), .val (.int (1 : Int32)), .val (.int c0), .val (.int (1 : Int32)), .val (.int c0)] []))
  refine Go.st (fun _ => XS.bipush X236.here hx rfl (hb hby d1_83)) ?_
  show Go p e below _ (T236.setTop (mkF m 85 #[.val (.ref a1), .val (.ref a2), .val (.int (1 : Int32)), .val (.int c0), .val (.int (1 : Int32)), .val (.int c0)] [(.int (64 : Int32))]))
  refine Go.st (fun _ => XS.aloadN X236.here hx rfl (hb hby d1_85) rfl rfl) ?_
  show Go p e below _ (T236.setTop (mkF m 86 #[.val (.ref a1), .val (.ref a2), .val (.int (1 : Int32)), .val (.int c0), .val (.int (1 : Int32)), .val (.int c0)] [(.ref a2), (.int (64 : Int32))]))
  refine Go.st (fun _ => XS.iload X236.here hx rfl (hb hby d1_86) rfl) ?_
  show Go p e below _ (T236.setTop (mkF m 88 #[.val (.ref a1), .val (.ref a2), .val (.int (1 : Int32)), .val (.int c0), .val (.int (1 : Int32)), .val (.int c0)] [(.int (1 : Int32)), (.ref a2), (.int (64 : Int32))]))
  obtain ⟨cl249, Ar249, qk249, Sz249, Nn249, Ha249, Ga249⟩ := id V_240
  have hin249 : ¬ ((1 : Int32) < 0 ∨ cl249.slots.size ≤ ((1 : Int32) : Int32).toNatClampNeg) := inb_of Sz249 ⟨by decide, by decide⟩
  refine Go.st (fun _ => X236.laload hx (j := (1 : Int32)) (v := (.long t1)) (by rw [e236]; exact Ar249.1) (State.isArrayOf_alike hZ.alike Ar249.2.1) Ar249.2.2 hin249 (Has.at Ha249 hin249 rfl) (g := (mkF m 88 #[.val (.ref a1), .val (.ref a2), .val (.int (1 : Int32)), .val (.int c0), .val (.int (1 : Int32)), .val (.int c0)] [(.int (1 : Int32)), (.ref a2), (.int (64 : Int32))])) rfl rfl (hb hby d1_88) _) ?_
  show Go p e below _ (T236.setTop (mkF m 89 #[.val (.ref a1), .val (.ref a2), .val (.int (1 : Int32)), .val (.int c0), .val (.int (1 : Int32)), .val (.int c0)] [(.long t1), (.int (64 : Int32))]))
  refine Go.st (fun _ => XS.lconst X236.here hx rfl (hb hby d1_89)) ?_
  show Go p e below _ (T236.setTop (mkF m 90 #[.val (.ref a1), .val (.ref a2), .val (.int (1 : Int32)), .val (.int c0), .val (.int (1 : Int32)), .val (.int c0)] [(.long (1 : Int64)), (.long t1), (.int (64 : Int32))]))
  refine Go.st (fun _ => XS.lsub X236.here hx rfl (hb hby d1_90) rfl) ?_
  show Go p e below _ (T236.setTop (mkF m 91 #[.val (.ref a1), .val (.ref a2), .val (.int (1 : Int32)), .val (.int c0), .val (.int (1 : Int32)), .val (.int c0)] [(.long (t1 - (1 : Int64))), (.int (64 : Int32))]))
  refine goCallS X236 hx hZ (y := (⟨"java/lang/Long", "numberOfLeadingZeros", "(J)I"⟩ : MethodName)) hown (hw _ (List.mem_of_getElem? (i := 30) rfl)) (hw _ (List.mem_of_getElem? (i := 31) rfl)) (hw _ (List.mem_of_getElem? (i := 32) rfl)) (hw _ (List.mem_of_getElem? (i := 33) rfl)) (by decide) (argsL := [(.long (t1 - (1 : Int64)))]) (rest := [(.int (64 : Int32))]) e236 (rmN64 l Z a0 hw [] (t1 - (1 : Int64)) h236 n0 O237) 1 (by decide) (by decide) (by decide) (by decide) (mkF m 91 #[.val (.ref a1), .val (.ref a2), .val (.int (1 : Int32)), .val (.int c0), .val (.int (1 : Int32)), .val (.int c0)] [(.long (t1 - (1 : Int64))), (.int (64 : Int32))]) rfl (by rw [hml]; rfl) (lenOf pd_1 rfl) rfl (hb hby d1_91) (Nat.le_of_eq rfl) ?_
  intro v250 T250 L250 X250 hQ250
  obtain ⟨⟨z250, rfl, hN250⟩, M250, e250⟩ := hQ250
  have N250 := Fr.app N236 M250
  show Go p e below _ (T250.setTop (mkF m 94 #[.val (.ref a1), .val (.ref a2), .val (.int (1 : Int32)), .val (.int c0), .val (.int (1 : Int32)), .val (.int c0)] [(.int z250), (.int (64 : Int32))]))
  refine Go.st (fun _ => XS.isub X250.here hx rfl (hb hby d1_94) rfl) ?_
  show Go p e below _ (T250.setTop (mkF m 95 #[.val (.ref a1), .val (.ref a2), .val (.int (1 : Int32)), .val (.int c0), .val (.int (1 : Int32)), .val (.int c0)] [(.int ((64 : Int32) - z250))]))
  obtain ⟨c1, hc1, B1⟩ := own_bits_of hN250 ht1
  rw [hc1]
  show Go p e below _ (T250.setTop (mkF m 95 #[.val (.ref a1), .val (.ref a2), .val (.int (1 : Int32)), .val (.int c0), .val (.int (1 : Int32)), .val (.int c0)] [(.int c1)]))
  refine Go.st (fun _ => XS.istore X250.here hx rfl (hb hby d1_95) rfl (l' := #[.val (.ref a1), .val (.ref a2), .val (.int (1 : Int32)), .val (.int c0), .val (.int (1 : Int32)), .val (.int c1)]) rfl) ?_
  show Go p e below _ (T250.setTop (mkF m 97 #[.val (.ref a1), .val (.ref a2), .val (.int (1 : Int32)), .val (.int c0), .val (.int (1 : Int32)), .val (.int c1)] []))
  refine Go.st (fun _ => XS.iloadN X250.here hx rfl (hb hby d1_97) rfl) ?_
  show Go p e below _ (T250.setTop (mkF m 98 #[.val (.ref a1), .val (.ref a2), .val (.int (1 : Int32)), .val (.int c0), .val (.int (1 : Int32)), .val (.int c1)] [(.int c0)]))
  refine Go.st (fun _ => XS.iload X250.here hx rfl (hb hby d1_98) rfl) ?_
  show Go p e below _ (T250.setTop (mkF m 100 #[.val (.ref a1), .val (.ref a2), .val (.int (1 : Int32)), .val (.int c0), .val (.int (1 : Int32)), .val (.int c1)] [(.int c1), (.int c0)]))
  refine Go.st (fun _ => XS.iadd X250.here hx rfl (hb hby d1_100) rfl) ?_
  show Go p e below _ (T250.setTop (mkF m 101 #[.val (.ref a1), .val (.ref a2), .val (.int (1 : Int32)), .val (.int c0), .val (.int (1 : Int32)), .val (.int c1)] [(.int (c0 + c1))]))
  refine Go.st (fun _ => XS.bipush X250.here hx rfl (hb hby d1_101)) ?_
  show Go p e below _ (T250.setTop (mkF m 103 #[.val (.ref a1), .val (.ref a2), .val (.int (1 : Int32)), .val (.int c0), .val (.int (1 : Int32)), .val (.int c1)] [(.int (64 : Int32)), (.int (c0 + c1))]))
  refine Go.st (fun _ => XS.icmpYes X250.here hx rfl (pc0 := 103) (pc' := 111) rfl (hb hby d1_103) rfl (flt (own_le64 B0 B1)).2.2.2 (by decide) (by decide)) ?_
  show Go p e below _ (T250.setTop (mkF m 111 #[.val (.ref a1), .val (.ref a2), .val (.int (1 : Int32)), .val (.int c0), .val (.int (1 : Int32)), .val (.int c1)] []))
  refine Go.st (fun _ => XS.aloadN X250.here hx rfl (hb hby d1_111) rfl rfl) ?_
  show Go p e below _ (T250.setTop (mkF m 112 #[.val (.ref a1), .val (.ref a2), .val (.int (1 : Int32)), .val (.int c0), .val (.int (1 : Int32)), .val (.int c1)] [(.ref a1)]))
  obtain ⟨T251, X251, e251, st251⟩ := getF X250 hx hZ hown (host := "") (Or.inl (hw _ (List.mem_of_getElem? (i := 24) rfl))) Via.refl e250 F242 (g := (mkF m 112 #[.val (.ref a1), .val (.ref a2), .val (.int (1 : Int32)), .val (.int c0), .val (.int (1 : Int32)), .val (.int c1)] [(.ref a1)])) rfl rfl (hb hby d1_112)
  refine Go.st st251 ?_
  show Go p e below _ (T251.setTop (mkF m 115 #[.val (.ref a1), .val (.ref a2), .val (.int (1 : Int32)), .val (.int c0), .val (.int (1 : Int32)), .val (.int c1)] [(.ref b129)]))
  refine Go.st (fun _ => XS.iload X251.here hx rfl (hb hby d1_115) rfl) ?_
  show Go p e below _ (T251.setTop (mkF m 117 #[.val (.ref a1), .val (.ref a2), .val (.int (1 : Int32)), .val (.int c0), .val (.int (1 : Int32)), .val (.int c1)] [(.int (1 : Int32)), (.ref b129)]))
  refine Go.st (fun _ => XS.iloadN X251.here hx rfl (hb hby d1_117) rfl) ?_
  show Go p e below _ (T251.setTop (mkF m 118 #[.val (.ref a1), .val (.ref a2), .val (.int (1 : Int32)), .val (.int c0), .val (.int (1 : Int32)), .val (.int c1)] [(.int (1 : Int32)), (.int (1 : Int32)), (.ref b129)]))
  refine Go.st (fun _ => XS.iconst X251.here hx rfl (hb hby d1_118)) ?_
  show Go p e below _ (T251.setTop (mkF m 119 #[.val (.ref a1), .val (.ref a2), .val (.int (1 : Int32)), .val (.int c0), .val (.int (1 : Int32)), .val (.int c1)] [(.int (1 : Int32)), (.int (1 : Int32)), (.int (1 : Int32)), (.ref b129)]))
  refine Go.st (fun _ => XS.isub X251.here hx rfl (hb hby d1_119) rfl) ?_
  show Go p e below _ (T251.setTop (mkF m 120 #[.val (.ref a1), .val (.ref a2), .val (.int (1 : Int32)), .val (.int c0), .val (.int (1 : Int32)), .val (.int c1)] [(.int (0 : Int32)), (.int (1 : Int32)), (.ref b129)]))
  obtain ⟨cl252, Ar252, qk252, Sz252, Nn252, Ha252, Ga252⟩ := id V_245
  have hin252 : ¬ ((1 : Int32) < 0 ∨ cl252.slots.size ≤ ((1 : Int32) : Int32).toNatClampNeg) := inb_of Sz252 ⟨by decide, by decide⟩
  obtain ⟨T252, h252, X252, e252, W252, st252⟩ := stI X251 hx hZ e251 Ar252 (j := (1 : Int32)) hin252 (g := (mkF m 120 #[.val (.ref a1), .val (.ref a2), .val (.int (1 : Int32)), .val (.int c0), .val (.int (1 : Int32)), .val (.int c1)] [(.int (0 : Int32)), (.int (1 : Int32)), (.ref b129)])) rfl rfl (hb hby d1_120)
  refine Go.st st252 ?_
  have O253 : Old Z n0 h252 := O237.wr W252 gn129
  have E_254 : Exa Z h252 a1 "com/example/gieres/gieres/model/TupleTable" := E_238.wr W252
  have F255 : Fld Z h252 a1 "com/example/gieres/gieres/model/TupleTable" "width" "I" (.int (0 : Int32)) := F239.other W252 (Or.inl ne130)
  have V_256 : Arv Z h252 a2 ka2 .long (3 : Int32) [(.long t0), (.long t1), (.long t2)] (.long (0 : Int64)) := V_240.other W252 ne131
  have K257 : Keep h0 h252 [a1] := K241.wr W252 (Or.inr sz129)
  have F258 : Fld Z h252 a1 "com/example/gieres/gieres/model/TupleTable" "word" "[I" (.ref b129) := F242.other W252 (Or.inl ne130)
  have F259 : Fld Z h252 a1 "com/example/gieres/gieres/model/TupleTable" "shift" "[I" (.ref b152) := F243.other W252 (Or.inl ne130)
  have F260 : Fld Z h252 a1 "com/example/gieres/gieres/model/TupleTable" "mask" "[J" (.ref b178) := F244.other W252 (Or.inl ne130)
  have V_261 : Arv Z h252 b152 k152 .int (3 : Int32) [(.int (0 : Int32)), (.int (0 : Int32)), (.int (0 : Int32))] (.int (0 : Int32)) := V_246.other W252 (Ne.symm ne155)
  have V_262 : Arv Z h252 b178 k178 .long (3 : Int32) [(.long (((1 : Int64) <<< (c0 &&& 0x3f).toInt64) - (1 : Int64))), (.long (0 : Int64)), (.long (0 : Int64))] (.long (0 : Int64)) := V_247.other W252 (Ne.symm ne181)
  have V_263 : Arv Z h252 b129 k129 .int (3 : Int32) [(.int (0 : Int32)), (.int (0 : Int32)), (.int (0 : Int32))] (.int (0 : Int32)) := Arv.set Ar252 qk252 Sz252 Nn252 Ha252 Ga252 rfl W252 1 rfl (Nat.le_of_ble_eq_true rfl)
  have N252 := Fr.snoc X252 N250 gn129
  show Go p e below _ (T252.setTop (mkF m 121 #[.val (.ref a1), .val (.ref a2), .val (.int (1 : Int32)), .val (.int c0), .val (.int (1 : Int32)), .val (.int c1)] []))
  refine Go.st (fun _ => XS.aloadN X252.here hx rfl (hb hby d1_121) rfl rfl) ?_
  show Go p e below _ (T252.setTop (mkF m 122 #[.val (.ref a1), .val (.ref a2), .val (.int (1 : Int32)), .val (.int c0), .val (.int (1 : Int32)), .val (.int c1)] [(.ref a1)]))
  obtain ⟨T264, X264, e264, st264⟩ := getF X252 hx hZ hown (host := "") (Or.inl (hw _ (List.mem_of_getElem? (i := 26) rfl))) Via.refl e252 F259 (g := (mkF m 122 #[.val (.ref a1), .val (.ref a2), .val (.int (1 : Int32)), .val (.int c0), .val (.int (1 : Int32)), .val (.int c1)] [(.ref a1)])) rfl rfl (hb hby d1_122)
  refine Go.st st264 ?_
  show Go p e below _ (T264.setTop (mkF m 125 #[.val (.ref a1), .val (.ref a2), .val (.int (1 : Int32)), .val (.int c0), .val (.int (1 : Int32)), .val (.int c1)] [(.ref b152)]))
  refine Go.st (fun _ => XS.iload X264.here hx rfl (hb hby d1_125) rfl) ?_
  show Go p e below _ (T264.setTop (mkF m 127 #[.val (.ref a1), .val (.ref a2), .val (.int (1 : Int32)), .val (.int c0), .val (.int (1 : Int32)), .val (.int c1)] [(.int (1 : Int32)), (.ref b152)]))
  refine Go.st (fun _ => XS.iloadN X264.here hx rfl (hb hby d1_127) rfl) ?_
  show Go p e below _ (T264.setTop (mkF m 128 #[.val (.ref a1), .val (.ref a2), .val (.int (1 : Int32)), .val (.int c0), .val (.int (1 : Int32)), .val (.int c1)] [(.int c0), (.int (1 : Int32)), (.ref b152)]))
  obtain ⟨cl265, Ar265, qk265, Sz265, Nn265, Ha265, Ga265⟩ := id V_261
  have hin265 : ¬ ((1 : Int32) < 0 ∨ cl265.slots.size ≤ ((1 : Int32) : Int32).toNatClampNeg) := inb_of Sz265 ⟨by decide, by decide⟩
  obtain ⟨T265, h265, X265, e265, W265, st265⟩ := stI X264 hx hZ e264 Ar265 (j := (1 : Int32)) hin265 (g := (mkF m 128 #[.val (.ref a1), .val (.ref a2), .val (.int (1 : Int32)), .val (.int c0), .val (.int (1 : Int32)), .val (.int c1)] [(.int c0), (.int (1 : Int32)), (.ref b152)])) rfl rfl (hb hby d1_128)
  refine Go.st st265 ?_
  have O266 : Old Z n0 h265 := O253.wr W265 gn152
  have E_267 : Exa Z h265 a1 "com/example/gieres/gieres/model/TupleTable" := E_254.wr W265
  have F268 : Fld Z h265 a1 "com/example/gieres/gieres/model/TupleTable" "width" "I" (.int (0 : Int32)) := F255.other W265 (Or.inl ne153)
  have V_269 : Arv Z h265 a2 ka2 .long (3 : Int32) [(.long t0), (.long t1), (.long t2)] (.long (0 : Int64)) := V_256.other W265 ne154
  have K270 : Keep h0 h265 [a1] := K257.wr W265 (Or.inr sz152)
  have F271 : Fld Z h265 a1 "com/example/gieres/gieres/model/TupleTable" "word" "[I" (.ref b129) := F258.other W265 (Or.inl ne153)
  have F272 : Fld Z h265 a1 "com/example/gieres/gieres/model/TupleTable" "shift" "[I" (.ref b152) := F259.other W265 (Or.inl ne153)
  have F273 : Fld Z h265 a1 "com/example/gieres/gieres/model/TupleTable" "mask" "[J" (.ref b178) := F260.other W265 (Or.inl ne153)
  have V_274 : Arv Z h265 b178 k178 .long (3 : Int32) [(.long (((1 : Int64) <<< (c0 &&& 0x3f).toInt64) - (1 : Int64))), (.long (0 : Int64)), (.long (0 : Int64))] (.long (0 : Int64)) := V_262.other W265 (Ne.symm ne182)
  have V_275 : Arv Z h265 b129 k129 .int (3 : Int32) [(.int (0 : Int32)), (.int (0 : Int32)), (.int (0 : Int32))] (.int (0 : Int32)) := V_263.other W265 ne155
  have V_276 : Arv Z h265 b152 k152 .int (3 : Int32) [(.int (0 : Int32)), (.int c0), (.int (0 : Int32))] (.int (0 : Int32)) := Arv.set Ar265 qk265 Sz265 Nn265 Ha265 Ga265 rfl W265 1 rfl (Nat.le_of_ble_eq_true rfl)
  have N265 := Fr.snoc X265 N252 gn152
  show Go p e below _ (T265.setTop (mkF m 129 #[.val (.ref a1), .val (.ref a2), .val (.int (1 : Int32)), .val (.int c0), .val (.int (1 : Int32)), .val (.int c1)] []))
  refine Go.st (fun _ => XS.aloadN X265.here hx rfl (hb hby d1_129) rfl rfl) ?_
  show Go p e below _ (T265.setTop (mkF m 130 #[.val (.ref a1), .val (.ref a2), .val (.int (1 : Int32)), .val (.int c0), .val (.int (1 : Int32)), .val (.int c1)] [(.ref a1)]))
  obtain ⟨T277, X277, e277, st277⟩ := getF X265 hx hZ hown (host := "") (Or.inl (hw _ (List.mem_of_getElem? (i := 28) rfl))) Via.refl e265 F273 (g := (mkF m 130 #[.val (.ref a1), .val (.ref a2), .val (.int (1 : Int32)), .val (.int c0), .val (.int (1 : Int32)), .val (.int c1)] [(.ref a1)])) rfl rfl (hb hby d1_130)
  refine Go.st st277 ?_
  show Go p e below _ (T277.setTop (mkF m 133 #[.val (.ref a1), .val (.ref a2), .val (.int (1 : Int32)), .val (.int c0), .val (.int (1 : Int32)), .val (.int c1)] [(.ref b178)]))
  refine Go.st (fun _ => XS.iload X277.here hx rfl (hb hby d1_133) rfl) ?_
  show Go p e below _ (T277.setTop (mkF m 135 #[.val (.ref a1), .val (.ref a2), .val (.int (1 : Int32)), .val (.int c0), .val (.int (1 : Int32)), .val (.int c1)] [(.int (1 : Int32)), (.ref b178)]))
  refine Go.st (fun _ => XS.lconst X277.here hx rfl (hb hby d1_135)) ?_
  show Go p e below _ (T277.setTop (mkF m 136 #[.val (.ref a1), .val (.ref a2), .val (.int (1 : Int32)), .val (.int c0), .val (.int (1 : Int32)), .val (.int c1)] [(.long (1 : Int64)), (.int (1 : Int32)), (.ref b178)]))
  refine Go.st (fun _ => XS.iload X277.here hx rfl (hb hby d1_136) rfl) ?_
  show Go p e below _ (T277.setTop (mkF m 138 #[.val (.ref a1), .val (.ref a2), .val (.int (1 : Int32)), .val (.int c0), .val (.int (1 : Int32)), .val (.int c1)] [(.int c1), (.long (1 : Int64)), (.int (1 : Int32)), (.ref b178)]))
  refine Go.st (fun _ => XS.lshl X277.here hx rfl (hb hby d1_138) rfl) ?_
  show Go p e below _ (T277.setTop (mkF m 139 #[.val (.ref a1), .val (.ref a2), .val (.int (1 : Int32)), .val (.int c0), .val (.int (1 : Int32)), .val (.int c1)] [(.long ((1 : Int64) <<< (c1 &&& 0x3f).toInt64)), (.int (1 : Int32)), (.ref b178)]))
  refine Go.st (fun _ => XS.lconst X277.here hx rfl (hb hby d1_139)) ?_
  show Go p e below _ (T277.setTop (mkF m 140 #[.val (.ref a1), .val (.ref a2), .val (.int (1 : Int32)), .val (.int c0), .val (.int (1 : Int32)), .val (.int c1)] [(.long (1 : Int64)), (.long ((1 : Int64) <<< (c1 &&& 0x3f).toInt64)), (.int (1 : Int32)), (.ref b178)]))
  refine Go.st (fun _ => XS.lsub X277.here hx rfl (hb hby d1_140) rfl) ?_
  show Go p e below _ (T277.setTop (mkF m 141 #[.val (.ref a1), .val (.ref a2), .val (.int (1 : Int32)), .val (.int c0), .val (.int (1 : Int32)), .val (.int c1)] [(.long (((1 : Int64) <<< (c1 &&& 0x3f).toInt64) - (1 : Int64))), (.int (1 : Int32)), (.ref b178)]))
  obtain ⟨cl278, Ar278, qk278, Sz278, Nn278, Ha278, Ga278⟩ := id V_274
  have hin278 : ¬ ((1 : Int32) < 0 ∨ cl278.slots.size ≤ ((1 : Int32) : Int32).toNatClampNeg) := inb_of Sz278 ⟨by decide, by decide⟩
  obtain ⟨T278, h278, X278, e278, W278, st278⟩ := stJ X277 hx hZ e277 Ar278 (j := (1 : Int32)) hin278 (g := (mkF m 141 #[.val (.ref a1), .val (.ref a2), .val (.int (1 : Int32)), .val (.int c0), .val (.int (1 : Int32)), .val (.int c1)] [(.long (((1 : Int64) <<< (c1 &&& 0x3f).toInt64) - (1 : Int64))), (.int (1 : Int32)), (.ref b178)])) rfl rfl (hb hby d1_141)
  refine Go.st st278 ?_
  have O279 : Old Z n0 h278 := O266.wr W278 gn178
  have E_280 : Exa Z h278 a1 "com/example/gieres/gieres/model/TupleTable" := E_267.wr W278
  have F281 : Fld Z h278 a1 "com/example/gieres/gieres/model/TupleTable" "width" "I" (.int (0 : Int32)) := F268.other W278 (Or.inl ne179)
  have V_282 : Arv Z h278 a2 ka2 .long (3 : Int32) [(.long t0), (.long t1), (.long t2)] (.long (0 : Int64)) := V_269.other W278 ne180
  have K283 : Keep h0 h278 [a1] := K270.wr W278 (Or.inr sz178)
  have F284 : Fld Z h278 a1 "com/example/gieres/gieres/model/TupleTable" "word" "[I" (.ref b129) := F271.other W278 (Or.inl ne179)
  have F285 : Fld Z h278 a1 "com/example/gieres/gieres/model/TupleTable" "shift" "[I" (.ref b152) := F272.other W278 (Or.inl ne179)
  have F286 : Fld Z h278 a1 "com/example/gieres/gieres/model/TupleTable" "mask" "[J" (.ref b178) := F273.other W278 (Or.inl ne179)
  have V_287 : Arv Z h278 b129 k129 .int (3 : Int32) [(.int (0 : Int32)), (.int (0 : Int32)), (.int (0 : Int32))] (.int (0 : Int32)) := V_275.other W278 ne181
  have V_288 : Arv Z h278 b152 k152 .int (3 : Int32) [(.int (0 : Int32)), (.int c0), (.int (0 : Int32))] (.int (0 : Int32)) := V_276.other W278 ne182
  have V_289 : Arv Z h278 b178 k178 .long (3 : Int32) [(.long (((1 : Int64) <<< (c0 &&& 0x3f).toInt64) - (1 : Int64))), (.long (((1 : Int64) <<< (c1 &&& 0x3f).toInt64) - (1 : Int64))), (.long (0 : Int64))] (.long (0 : Int64)) := Arv.set Ar278 qk278 Sz278 Nn278 Ha278 Ga278 rfl W278 1 rfl (Nat.le_of_ble_eq_true rfl)
  have N278 := Fr.snoc X278 N265 gn178
  show Go p e below _ (T278.setTop (mkF m 142 #[.val (.ref a1), .val (.ref a2), .val (.int (1 : Int32)), .val (.int c0), .val (.int (1 : Int32)), .val (.int c1)] []))
  refine Go.st (fun _ => XS.iloadN X278.here hx rfl (hb hby d1_142) rfl) ?_
  show Go p e below _ (T278.setTop (mkF m 143 #[.val (.ref a1), .val (.ref a2), .val (.int (1 : Int32)), .val (.int c0), .val (.int (1 : Int32)), .val (.int c1)] [(.int c0)]))
  refine Go.st (fun _ => XS.iload X278.here hx rfl (hb hby d1_143) rfl) ?_
  show Go p e below _ (T278.setTop (mkF m 145 #[.val (.ref a1), .val (.ref a2), .val (.int (1 : Int32)), .val (.int c0), .val (.int (1 : Int32)), .val (.int c1)] [(.int c1), (.int c0)]))
  refine Go.st (fun _ => XS.iadd X278.here hx rfl (hb hby d1_145) rfl) ?_
  show Go p e below _ (T278.setTop (mkF m 146 #[.val (.ref a1), .val (.ref a2), .val (.int (1 : Int32)), .val (.int c0), .val (.int (1 : Int32)), .val (.int c1)] [(.int (c0 + c1))]))
  refine Go.st (fun _ => XS.istoreN X278.here hx rfl (hb hby d1_146) rfl (l' := #[.val (.ref a1), .val (.ref a2), .val (.int (1 : Int32)), .val (.int (c0 + c1)), .val (.int (1 : Int32)), .val (.int c1)]) rfl) ?_
  show Go p e below _ (T278.setTop (mkF m 147 #[.val (.ref a1), .val (.ref a2), .val (.int (1 : Int32)), .val (.int (c0 + c1)), .val (.int (1 : Int32)), .val (.int c1)] []))
  refine Go.st (fun _ => XS.iinc X278.here hx rfl (hb hby d1_147) rfl (l' := #[.val (.ref a1), .val (.ref a2), .val (.int (1 : Int32)), .val (.int (c0 + c1)), .val (.int (2 : Int32)), .val (.int c1)]) rfl) ?_
  show Go p e below _ (T278.setTop (mkF m 150 #[.val (.ref a1), .val (.ref a2), .val (.int (1 : Int32)), .val (.int (c0 + c1)), .val (.int (2 : Int32)), .val (.int c1)] []))
  refine Go.st (fun _ => XS.goto X278.here hx rfl (pc0 := 150) (pc' := 76) rfl (hb hby d1_150) (by decide) (by decide)) ?_
  show Go p e below _ (T278.setTop (mkF m 76 #[.val (.ref a1), .val (.ref a2), .val (.int (1 : Int32)), .val (.int (c0 + c1)), .val (.int (2 : Int32)), .val (.int c1)] []))
  refine Go.st (fun _ => XS.iload X278.here hx rfl (hb hby d1_76) rfl) ?_
  show Go p e below _ (T278.setTop (mkF m 78 #[.val (.ref a1), .val (.ref a2), .val (.int (1 : Int32)), .val (.int (c0 + c1)), .val (.int (2 : Int32)), .val (.int c1)] [(.int (2 : Int32))]))
  refine Go.st (fun _ => XS.aloadN X278.here hx rfl (hb hby d1_78) rfl rfl) ?_
  show Go p e below _ (T278.setTop (mkF m 79 #[.val (.ref a1), .val (.ref a2), .val (.int (1 : Int32)), .val (.int (c0 + c1)), .val (.int (2 : Int32)), .val (.int c1)] [(.ref a2), (.int (2 : Int32))]))
  obtain ⟨cl290, Ar290, qk290, Sz290, Nn290, Ha290, Ga290⟩ := id V_282
  refine Go.st (fun _ => X278.arraylength hx (by rw [e278]; exact Ar290.1) (State.isArrayOf_alike hZ.alike Ar290.2.1) (g := (mkF m 79 #[.val (.ref a1), .val (.ref a2), .val (.int (1 : Int32)), .val (.int (c0 + c1)), .val (.int (2 : Int32)), .val (.int c1)] [(.ref a2), (.int (2 : Int32))])) rfl rfl (hb hby d1_79) _) ?_
  rw [len_of Sz290 Nn290]
  show Go p e below _ (T278.setTop (mkF m 80 #[.val (.ref a1), .val (.ref a2), .val (.int (1 : Int32)), .val (.int (c0 + c1)), .val (.int (2 : Int32)), .val (.int c1)] [(.int (3 : Int32)), (.int (2 : Int32))]))
  refine Go.st (fun _ => XS.icmpNo X278.here hx rfl (hb hby d1_80) rfl (tlt (by decide : (2 : Int32) < (3 : Int32))).2.1) ?_
  show Go p e below _ (T278.setTop (mkF m 83 #[.val (.ref a1), .val (.ref a2), .val (.int (1 : Int32)), .val (.int (c0 + c1)), .val (.int (2 : Int32)), .val (.int c1)] []))
  refine Go.st (fun _ => XS.bipush X278.here hx rfl (hb hby d1_83)) ?_
  show Go p e below _ (T278.setTop (mkF m 85 #[.val (.ref a1), .val (.ref a2), .val (.int (1 : Int32)), .val (.int (c0 + c1)), .val (.int (2 : Int32)), .val (.int c1)] [(.int (64 : Int32))]))
  refine Go.st (fun _ => XS.aloadN X278.here hx rfl (hb hby d1_85) rfl rfl) ?_
  show Go p e below _ (T278.setTop (mkF m 86 #[.val (.ref a1), .val (.ref a2), .val (.int (1 : Int32)), .val (.int (c0 + c1)), .val (.int (2 : Int32)), .val (.int c1)] [(.ref a2), (.int (64 : Int32))]))
  refine Go.st (fun _ => XS.iload X278.here hx rfl (hb hby d1_86) rfl) ?_
  show Go p e below _ (T278.setTop (mkF m 88 #[.val (.ref a1), .val (.ref a2), .val (.int (1 : Int32)), .val (.int (c0 + c1)), .val (.int (2 : Int32)), .val (.int c1)] [(.int (2 : Int32)), (.ref a2), (.int (64 : Int32))]))
  obtain ⟨cl291, Ar291, qk291, Sz291, Nn291, Ha291, Ga291⟩ := id V_282
  have hin291 : ¬ ((2 : Int32) < 0 ∨ cl291.slots.size ≤ ((2 : Int32) : Int32).toNatClampNeg) := inb_of Sz291 ⟨by decide, by decide⟩
  refine Go.st (fun _ => X278.laload hx (j := (2 : Int32)) (v := (.long t2)) (by rw [e278]; exact Ar291.1) (State.isArrayOf_alike hZ.alike Ar291.2.1) Ar291.2.2 hin291 (Has.at Ha291 hin291 rfl) (g := (mkF m 88 #[.val (.ref a1), .val (.ref a2), .val (.int (1 : Int32)), .val (.int (c0 + c1)), .val (.int (2 : Int32)), .val (.int c1)] [(.int (2 : Int32)), (.ref a2), (.int (64 : Int32))])) rfl rfl (hb hby d1_88) _) ?_
  show Go p e below _ (T278.setTop (mkF m 89 #[.val (.ref a1), .val (.ref a2), .val (.int (1 : Int32)), .val (.int (c0 + c1)), .val (.int (2 : Int32)), .val (.int c1)] [(.long t2), (.int (64 : Int32))]))
  refine Go.st (fun _ => XS.lconst X278.here hx rfl (hb hby d1_89)) ?_
  show Go p e below _ (T278.setTop (mkF m 90 #[.val (.ref a1), .val (.ref a2), .val (.int (1 : Int32)), .val (.int (c0 + c1)), .val (.int (2 : Int32)), .val (.int c1)] [(.long (1 : Int64)), (.long t2), (.int (64 : Int32))]))
  refine Go.st (fun _ => XS.lsub X278.here hx rfl (hb hby d1_90) rfl) ?_
  show Go p e below _ (T278.setTop (mkF m 91 #[.val (.ref a1), .val (.ref a2), .val (.int (1 : Int32)), .val (.int (c0 + c1)), .val (.int (2 : Int32)), .val (.int c1)] [(.long (t2 - (1 : Int64))), (.int (64 : Int32))]))
  refine goCallS X278 hx hZ (y := (⟨"java/lang/Long", "numberOfLeadingZeros", "(J)I"⟩ : MethodName)) hown (hw _ (List.mem_of_getElem? (i := 30) rfl)) (hw _ (List.mem_of_getElem? (i := 31) rfl)) (hw _ (List.mem_of_getElem? (i := 32) rfl)) (hw _ (List.mem_of_getElem? (i := 33) rfl)) (by decide) (argsL := [(.long (t2 - (1 : Int64)))]) (rest := [(.int (64 : Int32))]) e278 (rmN64 l Z a0 hw [] (t2 - (1 : Int64)) h278 n0 O279) 1 (by decide) (by decide) (by decide) (by decide) (mkF m 91 #[.val (.ref a1), .val (.ref a2), .val (.int (1 : Int32)), .val (.int (c0 + c1)), .val (.int (2 : Int32)), .val (.int c1)] [(.long (t2 - (1 : Int64))), (.int (64 : Int32))]) rfl (by rw [hml]; rfl) (lenOf pd_1 rfl) rfl (hb hby d1_91) (Nat.le_of_eq rfl) ?_
  intro v292 T292 L292 X292 hQ292
  obtain ⟨⟨z292, rfl, hN292⟩, M292, e292⟩ := hQ292
  have N292 := Fr.app N278 M292
  show Go p e below _ (T292.setTop (mkF m 94 #[.val (.ref a1), .val (.ref a2), .val (.int (1 : Int32)), .val (.int (c0 + c1)), .val (.int (2 : Int32)), .val (.int c1)] [(.int z292), (.int (64 : Int32))]))
  refine Go.st (fun _ => XS.isub X292.here hx rfl (hb hby d1_94) rfl) ?_
  show Go p e below _ (T292.setTop (mkF m 95 #[.val (.ref a1), .val (.ref a2), .val (.int (1 : Int32)), .val (.int (c0 + c1)), .val (.int (2 : Int32)), .val (.int c1)] [(.int ((64 : Int32) - z292))]))
  obtain ⟨c2, hc2, B2⟩ := own_bits_of hN292 ht2
  rw [hc2]
  show Go p e below _ (T292.setTop (mkF m 95 #[.val (.ref a1), .val (.ref a2), .val (.int (1 : Int32)), .val (.int (c0 + c1)), .val (.int (2 : Int32)), .val (.int c1)] [(.int c2)]))
  refine Go.st (fun _ => XS.istore X292.here hx rfl (hb hby d1_95) rfl (l' := #[.val (.ref a1), .val (.ref a2), .val (.int (1 : Int32)), .val (.int (c0 + c1)), .val (.int (2 : Int32)), .val (.int c2)]) rfl) ?_
  show Go p e below _ (T292.setTop (mkF m 97 #[.val (.ref a1), .val (.ref a2), .val (.int (1 : Int32)), .val (.int (c0 + c1)), .val (.int (2 : Int32)), .val (.int c2)] []))
  refine Go.st (fun _ => XS.iloadN X292.here hx rfl (hb hby d1_97) rfl) ?_
  show Go p e below _ (T292.setTop (mkF m 98 #[.val (.ref a1), .val (.ref a2), .val (.int (1 : Int32)), .val (.int (c0 + c1)), .val (.int (2 : Int32)), .val (.int c2)] [(.int (c0 + c1))]))
  refine Go.st (fun _ => XS.iload X292.here hx rfl (hb hby d1_98) rfl) ?_
  show Go p e below _ (T292.setTop (mkF m 100 #[.val (.ref a1), .val (.ref a2), .val (.int (1 : Int32)), .val (.int (c0 + c1)), .val (.int (2 : Int32)), .val (.int c2)] [(.int c2), (.int (c0 + c1))]))
  refine Go.st (fun _ => XS.iadd X292.here hx rfl (hb hby d1_100) rfl) ?_
  show Go p e below _ (T292.setTop (mkF m 101 #[.val (.ref a1), .val (.ref a2), .val (.int (1 : Int32)), .val (.int (c0 + c1)), .val (.int (2 : Int32)), .val (.int c2)] [(.int ((c0 + c1) + c2))]))
  refine Go.st (fun _ => XS.bipush X292.here hx rfl (hb hby d1_101)) ?_
  show Go p e below _ (T292.setTop (mkF m 103 #[.val (.ref a1), .val (.ref a2), .val (.int (1 : Int32)), .val (.int (c0 + c1)), .val (.int (2 : Int32)), .val (.int c2)] [(.int (64 : Int32)), (.int ((c0 + c1) + c2))]))
  by_cases hc293 : (64 : Int32) < ((c0 + c1) + c2)
  · refine Go.st (fun _ => XS.icmpNo X292.here hx rfl (hb hby d1_103) rfl (tlt hc293).2.2.2) ?_
    show Go p e below _ (T292.setTop (mkF m 106 #[.val (.ref a1), .val (.ref a2), .val (.int (1 : Int32)), .val (.int (c0 + c1)), .val (.int (2 : Int32)), .val (.int c2)] []))
    refine Go.st (fun _ => XS.iinc X292.here hx rfl (hb hby d1_106) rfl (l' := #[.val (.ref a1), .val (.ref a2), .val (.int (2 : Int32)), .val (.int (c0 + c1)), .val (.int (2 : Int32)), .val (.int c2)]) rfl) ?_
    show Go p e below _ (T292.setTop (mkF m 109 #[.val (.ref a1), .val (.ref a2), .val (.int (2 : Int32)), .val (.int (c0 + c1)), .val (.int (2 : Int32)), .val (.int c2)] []))
    refine Go.st (fun _ => XS.iconst X292.here hx rfl (hb hby d1_109)) ?_
    show Go p e below _ (T292.setTop (mkF m 110 #[.val (.ref a1), .val (.ref a2), .val (.int (2 : Int32)), .val (.int (c0 + c1)), .val (.int (2 : Int32)), .val (.int c2)] [(.int (0 : Int32))]))
    refine Go.st (fun _ => XS.istoreN X292.here hx rfl (hb hby d1_110) rfl (l' := #[.val (.ref a1), .val (.ref a2), .val (.int (2 : Int32)), .val (.int (0 : Int32)), .val (.int (2 : Int32)), .val (.int c2)]) rfl) ?_
    show Go p e below _ (T292.setTop (mkF m 111 #[.val (.ref a1), .val (.ref a2), .val (.int (2 : Int32)), .val (.int (0 : Int32)), .val (.int (2 : Int32)), .val (.int c2)] []))
    refine Go.st (fun _ => XS.aloadN X292.here hx rfl (hb hby d1_111) rfl rfl) ?_
    show Go p e below _ (T292.setTop (mkF m 112 #[.val (.ref a1), .val (.ref a2), .val (.int (2 : Int32)), .val (.int (0 : Int32)), .val (.int (2 : Int32)), .val (.int c2)] [(.ref a1)]))
    obtain ⟨T294, X294, e294, st294⟩ := getF X292 hx hZ hown (host := "") (Or.inl (hw _ (List.mem_of_getElem? (i := 24) rfl))) Via.refl e292 F284 (g := (mkF m 112 #[.val (.ref a1), .val (.ref a2), .val (.int (2 : Int32)), .val (.int (0 : Int32)), .val (.int (2 : Int32)), .val (.int c2)] [(.ref a1)])) rfl rfl (hb hby d1_112)
    refine Go.st st294 ?_
    show Go p e below _ (T294.setTop (mkF m 115 #[.val (.ref a1), .val (.ref a2), .val (.int (2 : Int32)), .val (.int (0 : Int32)), .val (.int (2 : Int32)), .val (.int c2)] [(.ref b129)]))
    refine Go.st (fun _ => XS.iload X294.here hx rfl (hb hby d1_115) rfl) ?_
    show Go p e below _ (T294.setTop (mkF m 117 #[.val (.ref a1), .val (.ref a2), .val (.int (2 : Int32)), .val (.int (0 : Int32)), .val (.int (2 : Int32)), .val (.int c2)] [(.int (2 : Int32)), (.ref b129)]))
    refine Go.st (fun _ => XS.iloadN X294.here hx rfl (hb hby d1_117) rfl) ?_
    show Go p e below _ (T294.setTop (mkF m 118 #[.val (.ref a1), .val (.ref a2), .val (.int (2 : Int32)), .val (.int (0 : Int32)), .val (.int (2 : Int32)), .val (.int c2)] [(.int (2 : Int32)), (.int (2 : Int32)), (.ref b129)]))
    refine Go.st (fun _ => XS.iconst X294.here hx rfl (hb hby d1_118)) ?_
    show Go p e below _ (T294.setTop (mkF m 119 #[.val (.ref a1), .val (.ref a2), .val (.int (2 : Int32)), .val (.int (0 : Int32)), .val (.int (2 : Int32)), .val (.int c2)] [(.int (1 : Int32)), (.int (2 : Int32)), (.int (2 : Int32)), (.ref b129)]))
    refine Go.st (fun _ => XS.isub X294.here hx rfl (hb hby d1_119) rfl) ?_
    show Go p e below _ (T294.setTop (mkF m 120 #[.val (.ref a1), .val (.ref a2), .val (.int (2 : Int32)), .val (.int (0 : Int32)), .val (.int (2 : Int32)), .val (.int c2)] [(.int (1 : Int32)), (.int (2 : Int32)), (.ref b129)]))
    obtain ⟨cl295, Ar295, qk295, Sz295, Nn295, Ha295, Ga295⟩ := id V_287
    have hin295 : ¬ ((2 : Int32) < 0 ∨ cl295.slots.size ≤ ((2 : Int32) : Int32).toNatClampNeg) := inb_of Sz295 ⟨by decide, by decide⟩
    obtain ⟨T295, h295, X295, e295, W295, st295⟩ := stI X294 hx hZ e294 Ar295 (j := (2 : Int32)) hin295 (g := (mkF m 120 #[.val (.ref a1), .val (.ref a2), .val (.int (2 : Int32)), .val (.int (0 : Int32)), .val (.int (2 : Int32)), .val (.int c2)] [(.int (1 : Int32)), (.int (2 : Int32)), (.ref b129)])) rfl rfl (hb hby d1_120)
    refine Go.st st295 ?_
    have O296 : Old Z n0 h295 := O279.wr W295 gn129
    have E_297 : Exa Z h295 a1 "com/example/gieres/gieres/model/TupleTable" := E_280.wr W295
    have F298 : Fld Z h295 a1 "com/example/gieres/gieres/model/TupleTable" "width" "I" (.int (0 : Int32)) := F281.other W295 (Or.inl ne130)
    have V_299 : Arv Z h295 a2 ka2 .long (3 : Int32) [(.long t0), (.long t1), (.long t2)] (.long (0 : Int64)) := V_282.other W295 ne131
    have K300 : Keep h0 h295 [a1] := K283.wr W295 (Or.inr sz129)
    have F301 : Fld Z h295 a1 "com/example/gieres/gieres/model/TupleTable" "word" "[I" (.ref b129) := F284.other W295 (Or.inl ne130)
    have F302 : Fld Z h295 a1 "com/example/gieres/gieres/model/TupleTable" "shift" "[I" (.ref b152) := F285.other W295 (Or.inl ne130)
    have F303 : Fld Z h295 a1 "com/example/gieres/gieres/model/TupleTable" "mask" "[J" (.ref b178) := F286.other W295 (Or.inl ne130)
    have V_304 : Arv Z h295 b152 k152 .int (3 : Int32) [(.int (0 : Int32)), (.int c0), (.int (0 : Int32))] (.int (0 : Int32)) := V_288.other W295 (Ne.symm ne155)
    have V_305 : Arv Z h295 b178 k178 .long (3 : Int32) [(.long (((1 : Int64) <<< (c0 &&& 0x3f).toInt64) - (1 : Int64))), (.long (((1 : Int64) <<< (c1 &&& 0x3f).toInt64) - (1 : Int64))), (.long (0 : Int64))] (.long (0 : Int64)) := V_289.other W295 (Ne.symm ne181)
    have V_306 : Arv Z h295 b129 k129 .int (3 : Int32) [(.int (0 : Int32)), (.int (0 : Int32)), (.int (1 : Int32))] (.int (0 : Int32)) := Arv.set Ar295 qk295 Sz295 Nn295 Ha295 Ga295 rfl W295 2 rfl (Nat.le_of_ble_eq_true rfl)
    have N295 := Fr.snoc X295 N292 gn129
    show Go p e below _ (T295.setTop (mkF m 121 #[.val (.ref a1), .val (.ref a2), .val (.int (2 : Int32)), .val (.int (0 : Int32)), .val (.int (2 : Int32)), .val (.int c2)] []))
    refine Go.st (fun _ => XS.aloadN X295.here hx rfl (hb hby d1_121) rfl rfl) ?_
    show Go p e below _ (T295.setTop (mkF m 122 #[.val (.ref a1), .val (.ref a2), .val (.int (2 : Int32)), .val (.int (0 : Int32)), .val (.int (2 : Int32)), .val (.int c2)] [(.ref a1)]))
    obtain ⟨T307, X307, e307, st307⟩ := getF X295 hx hZ hown (host := "") (Or.inl (hw _ (List.mem_of_getElem? (i := 26) rfl))) Via.refl e295 F302 (g := (mkF m 122 #[.val (.ref a1), .val (.ref a2), .val (.int (2 : Int32)), .val (.int (0 : Int32)), .val (.int (2 : Int32)), .val (.int c2)] [(.ref a1)])) rfl rfl (hb hby d1_122)
    refine Go.st st307 ?_
    show Go p e below _ (T307.setTop (mkF m 125 #[.val (.ref a1), .val (.ref a2), .val (.int (2 : Int32)), .val (.int (0 : Int32)), .val (.int (2 : Int32)), .val (.int c2)] [(.ref b152)]))
    refine Go.st (fun _ => XS.iload X307.here hx rfl (hb hby d1_125) rfl) ?_
    show Go p e below _ (T307.setTop (mkF m 127 #[.val (.ref a1), .val (.ref a2), .val (.int (2 : Int32)), .val (.int (0 : Int32)), .val (.int (2 : Int32)), .val (.int c2)] [(.int (2 : Int32)), (.ref b152)]))
    refine Go.st (fun _ => XS.iloadN X307.here hx rfl (hb hby d1_127) rfl) ?_
    show Go p e below _ (T307.setTop (mkF m 128 #[.val (.ref a1), .val (.ref a2), .val (.int (2 : Int32)), .val (.int (0 : Int32)), .val (.int (2 : Int32)), .val (.int c2)] [(.int (0 : Int32)), (.int (2 : Int32)), (.ref b152)]))
    obtain ⟨cl308, Ar308, qk308, Sz308, Nn308, Ha308, Ga308⟩ := id V_304
    have hin308 : ¬ ((2 : Int32) < 0 ∨ cl308.slots.size ≤ ((2 : Int32) : Int32).toNatClampNeg) := inb_of Sz308 ⟨by decide, by decide⟩
    obtain ⟨T308, h308, X308, e308, W308, st308⟩ := stI X307 hx hZ e307 Ar308 (j := (2 : Int32)) hin308 (g := (mkF m 128 #[.val (.ref a1), .val (.ref a2), .val (.int (2 : Int32)), .val (.int (0 : Int32)), .val (.int (2 : Int32)), .val (.int c2)] [(.int (0 : Int32)), (.int (2 : Int32)), (.ref b152)])) rfl rfl (hb hby d1_128)
    refine Go.st st308 ?_
    have O309 : Old Z n0 h308 := O296.wr W308 gn152
    have E_310 : Exa Z h308 a1 "com/example/gieres/gieres/model/TupleTable" := E_297.wr W308
    have F311 : Fld Z h308 a1 "com/example/gieres/gieres/model/TupleTable" "width" "I" (.int (0 : Int32)) := F298.other W308 (Or.inl ne153)
    have V_312 : Arv Z h308 a2 ka2 .long (3 : Int32) [(.long t0), (.long t1), (.long t2)] (.long (0 : Int64)) := V_299.other W308 ne154
    have K313 : Keep h0 h308 [a1] := K300.wr W308 (Or.inr sz152)
    have F314 : Fld Z h308 a1 "com/example/gieres/gieres/model/TupleTable" "word" "[I" (.ref b129) := F301.other W308 (Or.inl ne153)
    have F315 : Fld Z h308 a1 "com/example/gieres/gieres/model/TupleTable" "shift" "[I" (.ref b152) := F302.other W308 (Or.inl ne153)
    have F316 : Fld Z h308 a1 "com/example/gieres/gieres/model/TupleTable" "mask" "[J" (.ref b178) := F303.other W308 (Or.inl ne153)
    have V_317 : Arv Z h308 b178 k178 .long (3 : Int32) [(.long (((1 : Int64) <<< (c0 &&& 0x3f).toInt64) - (1 : Int64))), (.long (((1 : Int64) <<< (c1 &&& 0x3f).toInt64) - (1 : Int64))), (.long (0 : Int64))] (.long (0 : Int64)) := V_305.other W308 (Ne.symm ne182)
    have V_318 : Arv Z h308 b129 k129 .int (3 : Int32) [(.int (0 : Int32)), (.int (0 : Int32)), (.int (1 : Int32))] (.int (0 : Int32)) := V_306.other W308 ne155
    have V_319 : Arv Z h308 b152 k152 .int (3 : Int32) [(.int (0 : Int32)), (.int c0), (.int (0 : Int32))] (.int (0 : Int32)) := Arv.set Ar308 qk308 Sz308 Nn308 Ha308 Ga308 rfl W308 2 rfl (Nat.le_of_ble_eq_true rfl)
    have N308 := Fr.snoc X308 N295 gn152
    show Go p e below _ (T308.setTop (mkF m 129 #[.val (.ref a1), .val (.ref a2), .val (.int (2 : Int32)), .val (.int (0 : Int32)), .val (.int (2 : Int32)), .val (.int c2)] []))
    refine Go.st (fun _ => XS.aloadN X308.here hx rfl (hb hby d1_129) rfl rfl) ?_
    show Go p e below _ (T308.setTop (mkF m 130 #[.val (.ref a1), .val (.ref a2), .val (.int (2 : Int32)), .val (.int (0 : Int32)), .val (.int (2 : Int32)), .val (.int c2)] [(.ref a1)]))
    obtain ⟨T320, X320, e320, st320⟩ := getF X308 hx hZ hown (host := "") (Or.inl (hw _ (List.mem_of_getElem? (i := 28) rfl))) Via.refl e308 F316 (g := (mkF m 130 #[.val (.ref a1), .val (.ref a2), .val (.int (2 : Int32)), .val (.int (0 : Int32)), .val (.int (2 : Int32)), .val (.int c2)] [(.ref a1)])) rfl rfl (hb hby d1_130)
    refine Go.st st320 ?_
    show Go p e below _ (T320.setTop (mkF m 133 #[.val (.ref a1), .val (.ref a2), .val (.int (2 : Int32)), .val (.int (0 : Int32)), .val (.int (2 : Int32)), .val (.int c2)] [(.ref b178)]))
    refine Go.st (fun _ => XS.iload X320.here hx rfl (hb hby d1_133) rfl) ?_
    show Go p e below _ (T320.setTop (mkF m 135 #[.val (.ref a1), .val (.ref a2), .val (.int (2 : Int32)), .val (.int (0 : Int32)), .val (.int (2 : Int32)), .val (.int c2)] [(.int (2 : Int32)), (.ref b178)]))
    refine Go.st (fun _ => XS.lconst X320.here hx rfl (hb hby d1_135)) ?_
    show Go p e below _ (T320.setTop (mkF m 136 #[.val (.ref a1), .val (.ref a2), .val (.int (2 : Int32)), .val (.int (0 : Int32)), .val (.int (2 : Int32)), .val (.int c2)] [(.long (1 : Int64)), (.int (2 : Int32)), (.ref b178)]))
    refine Go.st (fun _ => XS.iload X320.here hx rfl (hb hby d1_136) rfl) ?_
    show Go p e below _ (T320.setTop (mkF m 138 #[.val (.ref a1), .val (.ref a2), .val (.int (2 : Int32)), .val (.int (0 : Int32)), .val (.int (2 : Int32)), .val (.int c2)] [(.int c2), (.long (1 : Int64)), (.int (2 : Int32)), (.ref b178)]))
    refine Go.st (fun _ => XS.lshl X320.here hx rfl (hb hby d1_138) rfl) ?_
    show Go p e below _ (T320.setTop (mkF m 139 #[.val (.ref a1), .val (.ref a2), .val (.int (2 : Int32)), .val (.int (0 : Int32)), .val (.int (2 : Int32)), .val (.int c2)] [(.long ((1 : Int64) <<< (c2 &&& 0x3f).toInt64)), (.int (2 : Int32)), (.ref b178)]))
    refine Go.st (fun _ => XS.lconst X320.here hx rfl (hb hby d1_139)) ?_
    show Go p e below _ (T320.setTop (mkF m 140 #[.val (.ref a1), .val (.ref a2), .val (.int (2 : Int32)), .val (.int (0 : Int32)), .val (.int (2 : Int32)), .val (.int c2)] [(.long (1 : Int64)), (.long ((1 : Int64) <<< (c2 &&& 0x3f).toInt64)), (.int (2 : Int32)), (.ref b178)]))
    refine Go.st (fun _ => XS.lsub X320.here hx rfl (hb hby d1_140) rfl) ?_
    show Go p e below _ (T320.setTop (mkF m 141 #[.val (.ref a1), .val (.ref a2), .val (.int (2 : Int32)), .val (.int (0 : Int32)), .val (.int (2 : Int32)), .val (.int c2)] [(.long (((1 : Int64) <<< (c2 &&& 0x3f).toInt64) - (1 : Int64))), (.int (2 : Int32)), (.ref b178)]))
    obtain ⟨cl321, Ar321, qk321, Sz321, Nn321, Ha321, Ga321⟩ := id V_317
    have hin321 : ¬ ((2 : Int32) < 0 ∨ cl321.slots.size ≤ ((2 : Int32) : Int32).toNatClampNeg) := inb_of Sz321 ⟨by decide, by decide⟩
    obtain ⟨T321, h321, X321, e321, W321, st321⟩ := stJ X320 hx hZ e320 Ar321 (j := (2 : Int32)) hin321 (g := (mkF m 141 #[.val (.ref a1), .val (.ref a2), .val (.int (2 : Int32)), .val (.int (0 : Int32)), .val (.int (2 : Int32)), .val (.int c2)] [(.long (((1 : Int64) <<< (c2 &&& 0x3f).toInt64) - (1 : Int64))), (.int (2 : Int32)), (.ref b178)])) rfl rfl (hb hby d1_141)
    refine Go.st st321 ?_
    have O322 : Old Z n0 h321 := O309.wr W321 gn178
    have E_323 : Exa Z h321 a1 "com/example/gieres/gieres/model/TupleTable" := E_310.wr W321
    have F324 : Fld Z h321 a1 "com/example/gieres/gieres/model/TupleTable" "width" "I" (.int (0 : Int32)) := F311.other W321 (Or.inl ne179)
    have V_325 : Arv Z h321 a2 ka2 .long (3 : Int32) [(.long t0), (.long t1), (.long t2)] (.long (0 : Int64)) := V_312.other W321 ne180
    have K326 : Keep h0 h321 [a1] := K313.wr W321 (Or.inr sz178)
    have F327 : Fld Z h321 a1 "com/example/gieres/gieres/model/TupleTable" "word" "[I" (.ref b129) := F314.other W321 (Or.inl ne179)
    have F328 : Fld Z h321 a1 "com/example/gieres/gieres/model/TupleTable" "shift" "[I" (.ref b152) := F315.other W321 (Or.inl ne179)
    have F329 : Fld Z h321 a1 "com/example/gieres/gieres/model/TupleTable" "mask" "[J" (.ref b178) := F316.other W321 (Or.inl ne179)
    have V_330 : Arv Z h321 b129 k129 .int (3 : Int32) [(.int (0 : Int32)), (.int (0 : Int32)), (.int (1 : Int32))] (.int (0 : Int32)) := V_318.other W321 ne181
    have V_331 : Arv Z h321 b152 k152 .int (3 : Int32) [(.int (0 : Int32)), (.int c0), (.int (0 : Int32))] (.int (0 : Int32)) := V_319.other W321 ne182
    have V_332 : Arv Z h321 b178 k178 .long (3 : Int32) [(.long (((1 : Int64) <<< (c0 &&& 0x3f).toInt64) - (1 : Int64))), (.long (((1 : Int64) <<< (c1 &&& 0x3f).toInt64) - (1 : Int64))), (.long (((1 : Int64) <<< (c2 &&& 0x3f).toInt64) - (1 : Int64)))] (.long (0 : Int64)) := Arv.set Ar321 qk321 Sz321 Nn321 Ha321 Ga321 rfl W321 2 rfl (Nat.le_of_ble_eq_true rfl)
    have N321 := Fr.snoc X321 N308 gn178
    show Go p e below _ (T321.setTop (mkF m 142 #[.val (.ref a1), .val (.ref a2), .val (.int (2 : Int32)), .val (.int (0 : Int32)), .val (.int (2 : Int32)), .val (.int c2)] []))
    refine Go.st (fun _ => XS.iloadN X321.here hx rfl (hb hby d1_142) rfl) ?_
    show Go p e below _ (T321.setTop (mkF m 143 #[.val (.ref a1), .val (.ref a2), .val (.int (2 : Int32)), .val (.int (0 : Int32)), .val (.int (2 : Int32)), .val (.int c2)] [(.int (0 : Int32))]))
    refine Go.st (fun _ => XS.iload X321.here hx rfl (hb hby d1_143) rfl) ?_
    show Go p e below _ (T321.setTop (mkF m 145 #[.val (.ref a1), .val (.ref a2), .val (.int (2 : Int32)), .val (.int (0 : Int32)), .val (.int (2 : Int32)), .val (.int c2)] [(.int c2), (.int (0 : Int32))]))
    refine Go.st (fun _ => XS.iadd X321.here hx rfl (hb hby d1_145) rfl) ?_
    show Go p e below _ (T321.setTop (mkF m 146 #[.val (.ref a1), .val (.ref a2), .val (.int (2 : Int32)), .val (.int (0 : Int32)), .val (.int (2 : Int32)), .val (.int c2)] [(.int ((0 : Int32) + c2))]))
    refine Go.st (fun _ => XS.istoreN X321.here hx rfl (hb hby d1_146) rfl (l' := #[.val (.ref a1), .val (.ref a2), .val (.int (2 : Int32)), .val (.int ((0 : Int32) + c2)), .val (.int (2 : Int32)), .val (.int c2)]) rfl) ?_
    show Go p e below _ (T321.setTop (mkF m 147 #[.val (.ref a1), .val (.ref a2), .val (.int (2 : Int32)), .val (.int ((0 : Int32) + c2)), .val (.int (2 : Int32)), .val (.int c2)] []))
    refine Go.st (fun _ => XS.iinc X321.here hx rfl (hb hby d1_147) rfl (l' := #[.val (.ref a1), .val (.ref a2), .val (.int (2 : Int32)), .val (.int ((0 : Int32) + c2)), .val (.int (3 : Int32)), .val (.int c2)]) rfl) ?_
    show Go p e below _ (T321.setTop (mkF m 150 #[.val (.ref a1), .val (.ref a2), .val (.int (2 : Int32)), .val (.int ((0 : Int32) + c2)), .val (.int (3 : Int32)), .val (.int c2)] []))
    refine Go.st (fun _ => XS.goto X321.here hx rfl (pc0 := 150) (pc' := 76) rfl (hb hby d1_150) (by decide) (by decide)) ?_
    show Go p e below _ (T321.setTop (mkF m 76 #[.val (.ref a1), .val (.ref a2), .val (.int (2 : Int32)), .val (.int ((0 : Int32) + c2)), .val (.int (3 : Int32)), .val (.int c2)] []))
    refine Go.st (fun _ => XS.iload X321.here hx rfl (hb hby d1_76) rfl) ?_
    show Go p e below _ (T321.setTop (mkF m 78 #[.val (.ref a1), .val (.ref a2), .val (.int (2 : Int32)), .val (.int ((0 : Int32) + c2)), .val (.int (3 : Int32)), .val (.int c2)] [(.int (3 : Int32))]))
    refine Go.st (fun _ => XS.aloadN X321.here hx rfl (hb hby d1_78) rfl rfl) ?_
    show Go p e below _ (T321.setTop (mkF m 79 #[.val (.ref a1), .val (.ref a2), .val (.int (2 : Int32)), .val (.int ((0 : Int32) + c2)), .val (.int (3 : Int32)), .val (.int c2)] [(.ref a2), (.int (3 : Int32))]))
    obtain ⟨cl333, Ar333, qk333, Sz333, Nn333, Ha333, Ga333⟩ := id V_325
    refine Go.st (fun _ => X321.arraylength hx (by rw [e321]; exact Ar333.1) (State.isArrayOf_alike hZ.alike Ar333.2.1) (g := (mkF m 79 #[.val (.ref a1), .val (.ref a2), .val (.int (2 : Int32)), .val (.int ((0 : Int32) + c2)), .val (.int (3 : Int32)), .val (.int c2)] [(.ref a2), (.int (3 : Int32))])) rfl rfl (hb hby d1_79) _) ?_
    rw [len_of Sz333 Nn333]
    show Go p e below _ (T321.setTop (mkF m 80 #[.val (.ref a1), .val (.ref a2), .val (.int (2 : Int32)), .val (.int ((0 : Int32) + c2)), .val (.int (3 : Int32)), .val (.int c2)] [(.int (3 : Int32)), (.int (3 : Int32))]))
    refine Go.st (fun _ => XS.icmpYes X321.here hx rfl (pc0 := 80) (pc' := 153) rfl (hb hby d1_80) rfl (flt (by decide : ¬ ((3 : Int32) < (3 : Int32)))).2.1 (by decide) (by decide)) ?_
    show Go p e below _ (T321.setTop (mkF m 153 #[.val (.ref a1), .val (.ref a2), .val (.int (2 : Int32)), .val (.int ((0 : Int32) + c2)), .val (.int (3 : Int32)), .val (.int c2)] []))
    refine Go.st (fun _ => XS.aloadN X321.here hx rfl (hb hby d1_153) rfl rfl) ?_
    show Go p e below _ (T321.setTop (mkF m 154 #[.val (.ref a1), .val (.ref a2), .val (.int (2 : Int32)), .val (.int ((0 : Int32) + c2)), .val (.int (3 : Int32)), .val (.int c2)] [(.ref a1)]))
    refine Go.st (fun _ => XS.iloadN X321.here hx rfl (hb hby d1_154) rfl) ?_
    show Go p e below _ (T321.setTop (mkF m 155 #[.val (.ref a1), .val (.ref a2), .val (.int (2 : Int32)), .val (.int ((0 : Int32) + c2)), .val (.int (3 : Int32)), .val (.int c2)] [(.int (2 : Int32)), (.ref a1)]))
    obtain ⟨T334, h334, X334, e334, W334, st334⟩ := putF X321 hx hZ hown (host := "") (Or.inl (hw _ (List.mem_of_getElem? (i := 39) rfl))) Via.refl e321 F324 E_323 (Or.inr ⟨(hw _ (List.mem_of_getElem? (i := 40) rfl)), rfl, hnm⟩) (hw _ (List.mem_of_getElem? (i := 2) rfl)) (ty := .int) (by decide) rfl rfl (g := (mkF m 155 #[.val (.ref a1), .val (.ref a2), .val (.int (2 : Int32)), .val (.int ((0 : Int32) + c2)), .val (.int (3 : Int32)), .val (.int c2)] [(.int (2 : Int32)), (.ref a1)])) rfl rfl (hb hby d1_155)
    refine Go.st st334 ?_
    have O335 : Old Z n0 h334 := O322.wr W334 g1
    have E_336 : Exa Z h334 a1 "com/example/gieres/gieres/model/TupleTable" := E_323.wr W334
    have V_337 : Arv Z h334 a2 ka2 .long (3 : Int32) [(.long t0), (.long t1), (.long t2)] (.long (0 : Int64)) := V_325.other W334 ne21
    have K338 : Keep h0 h334 [a1] := K326.wr W334 (Or.inl (List.mem_of_getElem? (i := 0) rfl))
    have F339 : Fld Z h334 a1 "com/example/gieres/gieres/model/TupleTable" "word" "[I" (.ref b129) := F327.other W334 (Or.inr (slot_ne (Or.inr (hw _ (List.mem_of_getElem? (i := 25) rfl))) (Or.inr (hw _ (List.mem_of_getElem? (i := 40) rfl))) (by decide) (t := (.array .int)) (t' := .int) (by decide) (by decide)))
    have F340 : Fld Z h334 a1 "com/example/gieres/gieres/model/TupleTable" "shift" "[I" (.ref b152) := F328.other W334 (Or.inr (slot_ne (Or.inr (hw _ (List.mem_of_getElem? (i := 27) rfl))) (Or.inr (hw _ (List.mem_of_getElem? (i := 40) rfl))) (by decide) (t := (.array .int)) (t' := .int) (by decide) (by decide)))
    have F341 : Fld Z h334 a1 "com/example/gieres/gieres/model/TupleTable" "mask" "[J" (.ref b178) := F329.other W334 (Or.inr (slot_ne (Or.inr (hw _ (List.mem_of_getElem? (i := 29) rfl))) (Or.inr (hw _ (List.mem_of_getElem? (i := 40) rfl))) (by decide) (t := (.array .long)) (t' := .int) (by decide) (by decide)))
    have V_342 : Arv Z h334 b129 k129 .int (3 : Int32) [(.int (0 : Int32)), (.int (0 : Int32)), (.int (1 : Int32))] (.int (0 : Int32)) := V_330.other W334 (Ne.symm ne130)
    have V_343 : Arv Z h334 b152 k152 .int (3 : Int32) [(.int (0 : Int32)), (.int c0), (.int (0 : Int32))] (.int (0 : Int32)) := V_331.other W334 (Ne.symm ne153)
    have V_344 : Arv Z h334 b178 k178 .long (3 : Int32) [(.long (((1 : Int64) <<< (c0 &&& 0x3f).toInt64) - (1 : Int64))), (.long (((1 : Int64) <<< (c1 &&& 0x3f).toInt64) - (1 : Int64))), (.long (((1 : Int64) <<< (c2 &&& 0x3f).toInt64) - (1 : Int64)))] (.long (0 : Int64)) := V_332.other W334 (Ne.symm ne179)
    have F345 : Fld Z h334 a1 "com/example/gieres/gieres/model/TupleTable" "width" "I" (.int (2 : Int32)) := F324.same W334
    have N334 := Fr.snoc X334 N321 g1
    show Go p e below _ (T334.setTop (mkF m 158 #[.val (.ref a1), .val (.ref a2), .val (.int (2 : Int32)), .val (.int ((0 : Int32) + c2)), .val (.int (3 : Int32)), .val (.int c2)] []))
    exact goRetV X334 hx hlk hret e334 (hb hby d1_158) (by decide) (by decide) ⟨rfl, N334, K338, c0, c1, c2, _, _, _, b129, b152, b178, _, _, _, B0, B1, B2, (Or.inr ⟨hc293, rfl, rfl, rfl⟩), F339, V_342, F340, V_343, F341, V_344, F345⟩
  · refine Go.st (fun _ => XS.icmpYes X292.here hx rfl (pc0 := 103) (pc' := 111) rfl (hb hby d1_103) rfl (flt hc293).2.2.2 (by decide) (by decide)) ?_
    show Go p e below _ (T292.setTop (mkF m 111 #[.val (.ref a1), .val (.ref a2), .val (.int (1 : Int32)), .val (.int (c0 + c1)), .val (.int (2 : Int32)), .val (.int c2)] []))
    refine Go.st (fun _ => XS.aloadN X292.here hx rfl (hb hby d1_111) rfl rfl) ?_
    show Go p e below _ (T292.setTop (mkF m 112 #[.val (.ref a1), .val (.ref a2), .val (.int (1 : Int32)), .val (.int (c0 + c1)), .val (.int (2 : Int32)), .val (.int c2)] [(.ref a1)]))
    obtain ⟨T346, X346, e346, st346⟩ := getF X292 hx hZ hown (host := "") (Or.inl (hw _ (List.mem_of_getElem? (i := 24) rfl))) Via.refl e292 F284 (g := (mkF m 112 #[.val (.ref a1), .val (.ref a2), .val (.int (1 : Int32)), .val (.int (c0 + c1)), .val (.int (2 : Int32)), .val (.int c2)] [(.ref a1)])) rfl rfl (hb hby d1_112)
    refine Go.st st346 ?_
    show Go p e below _ (T346.setTop (mkF m 115 #[.val (.ref a1), .val (.ref a2), .val (.int (1 : Int32)), .val (.int (c0 + c1)), .val (.int (2 : Int32)), .val (.int c2)] [(.ref b129)]))
    refine Go.st (fun _ => XS.iload X346.here hx rfl (hb hby d1_115) rfl) ?_
    show Go p e below _ (T346.setTop (mkF m 117 #[.val (.ref a1), .val (.ref a2), .val (.int (1 : Int32)), .val (.int (c0 + c1)), .val (.int (2 : Int32)), .val (.int c2)] [(.int (2 : Int32)), (.ref b129)]))
    refine Go.st (fun _ => XS.iloadN X346.here hx rfl (hb hby d1_117) rfl) ?_
    show Go p e below _ (T346.setTop (mkF m 118 #[.val (.ref a1), .val (.ref a2), .val (.int (1 : Int32)), .val (.int (c0 + c1)), .val (.int (2 : Int32)), .val (.int c2)] [(.int (1 : Int32)), (.int (2 : Int32)), (.ref b129)]))
    refine Go.st (fun _ => XS.iconst X346.here hx rfl (hb hby d1_118)) ?_
    show Go p e below _ (T346.setTop (mkF m 119 #[.val (.ref a1), .val (.ref a2), .val (.int (1 : Int32)), .val (.int (c0 + c1)), .val (.int (2 : Int32)), .val (.int c2)] [(.int (1 : Int32)), (.int (1 : Int32)), (.int (2 : Int32)), (.ref b129)]))
    refine Go.st (fun _ => XS.isub X346.here hx rfl (hb hby d1_119) rfl) ?_
    show Go p e below _ (T346.setTop (mkF m 120 #[.val (.ref a1), .val (.ref a2), .val (.int (1 : Int32)), .val (.int (c0 + c1)), .val (.int (2 : Int32)), .val (.int c2)] [(.int (0 : Int32)), (.int (2 : Int32)), (.ref b129)]))
    obtain ⟨cl347, Ar347, qk347, Sz347, Nn347, Ha347, Ga347⟩ := id V_287
    have hin347 : ¬ ((2 : Int32) < 0 ∨ cl347.slots.size ≤ ((2 : Int32) : Int32).toNatClampNeg) := inb_of Sz347 ⟨by decide, by decide⟩
    obtain ⟨T347, h347, X347, e347, W347, st347⟩ := stI X346 hx hZ e346 Ar347 (j := (2 : Int32)) hin347 (g := (mkF m 120 #[.val (.ref a1), .val (.ref a2), .val (.int (1 : Int32)), .val (.int (c0 + c1)), .val (.int (2 : Int32)), .val (.int c2)] [(.int (0 : Int32)), (.int (2 : Int32)), (.ref b129)])) rfl rfl (hb hby d1_120)
    refine Go.st st347 ?_
    have O348 : Old Z n0 h347 := O279.wr W347 gn129
    have E_349 : Exa Z h347 a1 "com/example/gieres/gieres/model/TupleTable" := E_280.wr W347
    have F350 : Fld Z h347 a1 "com/example/gieres/gieres/model/TupleTable" "width" "I" (.int (0 : Int32)) := F281.other W347 (Or.inl ne130)
    have V_351 : Arv Z h347 a2 ka2 .long (3 : Int32) [(.long t0), (.long t1), (.long t2)] (.long (0 : Int64)) := V_282.other W347 ne131
    have K352 : Keep h0 h347 [a1] := K283.wr W347 (Or.inr sz129)
    have F353 : Fld Z h347 a1 "com/example/gieres/gieres/model/TupleTable" "word" "[I" (.ref b129) := F284.other W347 (Or.inl ne130)
    have F354 : Fld Z h347 a1 "com/example/gieres/gieres/model/TupleTable" "shift" "[I" (.ref b152) := F285.other W347 (Or.inl ne130)
    have F355 : Fld Z h347 a1 "com/example/gieres/gieres/model/TupleTable" "mask" "[J" (.ref b178) := F286.other W347 (Or.inl ne130)
    have V_356 : Arv Z h347 b152 k152 .int (3 : Int32) [(.int (0 : Int32)), (.int c0), (.int (0 : Int32))] (.int (0 : Int32)) := V_288.other W347 (Ne.symm ne155)
    have V_357 : Arv Z h347 b178 k178 .long (3 : Int32) [(.long (((1 : Int64) <<< (c0 &&& 0x3f).toInt64) - (1 : Int64))), (.long (((1 : Int64) <<< (c1 &&& 0x3f).toInt64) - (1 : Int64))), (.long (0 : Int64))] (.long (0 : Int64)) := V_289.other W347 (Ne.symm ne181)
    have V_358 : Arv Z h347 b129 k129 .int (3 : Int32) [(.int (0 : Int32)), (.int (0 : Int32)), (.int (0 : Int32))] (.int (0 : Int32)) := Arv.set Ar347 qk347 Sz347 Nn347 Ha347 Ga347 rfl W347 2 rfl (Nat.le_of_ble_eq_true rfl)
    have N347 := Fr.snoc X347 N292 gn129
    show Go p e below _ (T347.setTop (mkF m 121 #[.val (.ref a1), .val (.ref a2), .val (.int (1 : Int32)), .val (.int (c0 + c1)), .val (.int (2 : Int32)), .val (.int c2)] []))
    refine Go.st (fun _ => XS.aloadN X347.here hx rfl (hb hby d1_121) rfl rfl) ?_
    show Go p e below _ (T347.setTop (mkF m 122 #[.val (.ref a1), .val (.ref a2), .val (.int (1 : Int32)), .val (.int (c0 + c1)), .val (.int (2 : Int32)), .val (.int c2)] [(.ref a1)]))
    obtain ⟨T359, X359, e359, st359⟩ := getF X347 hx hZ hown (host := "") (Or.inl (hw _ (List.mem_of_getElem? (i := 26) rfl))) Via.refl e347 F354 (g := (mkF m 122 #[.val (.ref a1), .val (.ref a2), .val (.int (1 : Int32)), .val (.int (c0 + c1)), .val (.int (2 : Int32)), .val (.int c2)] [(.ref a1)])) rfl rfl (hb hby d1_122)
    refine Go.st st359 ?_
    show Go p e below _ (T359.setTop (mkF m 125 #[.val (.ref a1), .val (.ref a2), .val (.int (1 : Int32)), .val (.int (c0 + c1)), .val (.int (2 : Int32)), .val (.int c2)] [(.ref b152)]))
    refine Go.st (fun _ => XS.iload X359.here hx rfl (hb hby d1_125) rfl) ?_
    show Go p e below _ (T359.setTop (mkF m 127 #[.val (.ref a1), .val (.ref a2), .val (.int (1 : Int32)), .val (.int (c0 + c1)), .val (.int (2 : Int32)), .val (.int c2)] [(.int (2 : Int32)), (.ref b152)]))
    refine Go.st (fun _ => XS.iloadN X359.here hx rfl (hb hby d1_127) rfl) ?_
    show Go p e below _ (T359.setTop (mkF m 128 #[.val (.ref a1), .val (.ref a2), .val (.int (1 : Int32)), .val (.int (c0 + c1)), .val (.int (2 : Int32)), .val (.int c2)] [(.int (c0 + c1)), (.int (2 : Int32)), (.ref b152)]))
    obtain ⟨cl360, Ar360, qk360, Sz360, Nn360, Ha360, Ga360⟩ := id V_356
    have hin360 : ¬ ((2 : Int32) < 0 ∨ cl360.slots.size ≤ ((2 : Int32) : Int32).toNatClampNeg) := inb_of Sz360 ⟨by decide, by decide⟩
    obtain ⟨T360, h360, X360, e360, W360, st360⟩ := stI X359 hx hZ e359 Ar360 (j := (2 : Int32)) hin360 (g := (mkF m 128 #[.val (.ref a1), .val (.ref a2), .val (.int (1 : Int32)), .val (.int (c0 + c1)), .val (.int (2 : Int32)), .val (.int c2)] [(.int (c0 + c1)), (.int (2 : Int32)), (.ref b152)])) rfl rfl (hb hby d1_128)
    refine Go.st st360 ?_
    have O361 : Old Z n0 h360 := O348.wr W360 gn152
    have E_362 : Exa Z h360 a1 "com/example/gieres/gieres/model/TupleTable" := E_349.wr W360
    have F363 : Fld Z h360 a1 "com/example/gieres/gieres/model/TupleTable" "width" "I" (.int (0 : Int32)) := F350.other W360 (Or.inl ne153)
    have V_364 : Arv Z h360 a2 ka2 .long (3 : Int32) [(.long t0), (.long t1), (.long t2)] (.long (0 : Int64)) := V_351.other W360 ne154
    have K365 : Keep h0 h360 [a1] := K352.wr W360 (Or.inr sz152)
    have F366 : Fld Z h360 a1 "com/example/gieres/gieres/model/TupleTable" "word" "[I" (.ref b129) := F353.other W360 (Or.inl ne153)
    have F367 : Fld Z h360 a1 "com/example/gieres/gieres/model/TupleTable" "shift" "[I" (.ref b152) := F354.other W360 (Or.inl ne153)
    have F368 : Fld Z h360 a1 "com/example/gieres/gieres/model/TupleTable" "mask" "[J" (.ref b178) := F355.other W360 (Or.inl ne153)
    have V_369 : Arv Z h360 b178 k178 .long (3 : Int32) [(.long (((1 : Int64) <<< (c0 &&& 0x3f).toInt64) - (1 : Int64))), (.long (((1 : Int64) <<< (c1 &&& 0x3f).toInt64) - (1 : Int64))), (.long (0 : Int64))] (.long (0 : Int64)) := V_357.other W360 (Ne.symm ne182)
    have V_370 : Arv Z h360 b129 k129 .int (3 : Int32) [(.int (0 : Int32)), (.int (0 : Int32)), (.int (0 : Int32))] (.int (0 : Int32)) := V_358.other W360 ne155
    have V_371 : Arv Z h360 b152 k152 .int (3 : Int32) [(.int (0 : Int32)), (.int c0), (.int (c0 + c1))] (.int (0 : Int32)) := Arv.set Ar360 qk360 Sz360 Nn360 Ha360 Ga360 rfl W360 2 rfl (Nat.le_of_ble_eq_true rfl)
    have N360 := Fr.snoc X360 N347 gn152
    show Go p e below _ (T360.setTop (mkF m 129 #[.val (.ref a1), .val (.ref a2), .val (.int (1 : Int32)), .val (.int (c0 + c1)), .val (.int (2 : Int32)), .val (.int c2)] []))
    refine Go.st (fun _ => XS.aloadN X360.here hx rfl (hb hby d1_129) rfl rfl) ?_
    show Go p e below _ (T360.setTop (mkF m 130 #[.val (.ref a1), .val (.ref a2), .val (.int (1 : Int32)), .val (.int (c0 + c1)), .val (.int (2 : Int32)), .val (.int c2)] [(.ref a1)]))
    obtain ⟨T372, X372, e372, st372⟩ := getF X360 hx hZ hown (host := "") (Or.inl (hw _ (List.mem_of_getElem? (i := 28) rfl))) Via.refl e360 F368 (g := (mkF m 130 #[.val (.ref a1), .val (.ref a2), .val (.int (1 : Int32)), .val (.int (c0 + c1)), .val (.int (2 : Int32)), .val (.int c2)] [(.ref a1)])) rfl rfl (hb hby d1_130)
    refine Go.st st372 ?_
    show Go p e below _ (T372.setTop (mkF m 133 #[.val (.ref a1), .val (.ref a2), .val (.int (1 : Int32)), .val (.int (c0 + c1)), .val (.int (2 : Int32)), .val (.int c2)] [(.ref b178)]))
    refine Go.st (fun _ => XS.iload X372.here hx rfl (hb hby d1_133) rfl) ?_
    show Go p e below _ (T372.setTop (mkF m 135 #[.val (.ref a1), .val (.ref a2), .val (.int (1 : Int32)), .val (.int (c0 + c1)), .val (.int (2 : Int32)), .val (.int c2)] [(.int (2 : Int32)), (.ref b178)]))
    refine Go.st (fun _ => XS.lconst X372.here hx rfl (hb hby d1_135)) ?_
    show Go p e below _ (T372.setTop (mkF m 136 #[.val (.ref a1), .val (.ref a2), .val (.int (1 : Int32)), .val (.int (c0 + c1)), .val (.int (2 : Int32)), .val (.int c2)] [(.long (1 : Int64)), (.int (2 : Int32)), (.ref b178)]))
    refine Go.st (fun _ => XS.iload X372.here hx rfl (hb hby d1_136) rfl) ?_
    show Go p e below _ (T372.setTop (mkF m 138 #[.val (.ref a1), .val (.ref a2), .val (.int (1 : Int32)), .val (.int (c0 + c1)), .val (.int (2 : Int32)), .val (.int c2)] [(.int c2), (.long (1 : Int64)), (.int (2 : Int32)), (.ref b178)]))
    refine Go.st (fun _ => XS.lshl X372.here hx rfl (hb hby d1_138) rfl) ?_
    show Go p e below _ (T372.setTop (mkF m 139 #[.val (.ref a1), .val (.ref a2), .val (.int (1 : Int32)), .val (.int (c0 + c1)), .val (.int (2 : Int32)), .val (.int c2)] [(.long ((1 : Int64) <<< (c2 &&& 0x3f).toInt64)), (.int (2 : Int32)), (.ref b178)]))
    refine Go.st (fun _ => XS.lconst X372.here hx rfl (hb hby d1_139)) ?_
    show Go p e below _ (T372.setTop (mkF m 140 #[.val (.ref a1), .val (.ref a2), .val (.int (1 : Int32)), .val (.int (c0 + c1)), .val (.int (2 : Int32)), .val (.int c2)] [(.long (1 : Int64)), (.long ((1 : Int64) <<< (c2 &&& 0x3f).toInt64)), (.int (2 : Int32)), (.ref b178)]))
    refine Go.st (fun _ => XS.lsub X372.here hx rfl (hb hby d1_140) rfl) ?_
    show Go p e below _ (T372.setTop (mkF m 141 #[.val (.ref a1), .val (.ref a2), .val (.int (1 : Int32)), .val (.int (c0 + c1)), .val (.int (2 : Int32)), .val (.int c2)] [(.long (((1 : Int64) <<< (c2 &&& 0x3f).toInt64) - (1 : Int64))), (.int (2 : Int32)), (.ref b178)]))
    obtain ⟨cl373, Ar373, qk373, Sz373, Nn373, Ha373, Ga373⟩ := id V_369
    have hin373 : ¬ ((2 : Int32) < 0 ∨ cl373.slots.size ≤ ((2 : Int32) : Int32).toNatClampNeg) := inb_of Sz373 ⟨by decide, by decide⟩
    obtain ⟨T373, h373, X373, e373, W373, st373⟩ := stJ X372 hx hZ e372 Ar373 (j := (2 : Int32)) hin373 (g := (mkF m 141 #[.val (.ref a1), .val (.ref a2), .val (.int (1 : Int32)), .val (.int (c0 + c1)), .val (.int (2 : Int32)), .val (.int c2)] [(.long (((1 : Int64) <<< (c2 &&& 0x3f).toInt64) - (1 : Int64))), (.int (2 : Int32)), (.ref b178)])) rfl rfl (hb hby d1_141)
    refine Go.st st373 ?_
    have O374 : Old Z n0 h373 := O361.wr W373 gn178
    have E_375 : Exa Z h373 a1 "com/example/gieres/gieres/model/TupleTable" := E_362.wr W373
    have F376 : Fld Z h373 a1 "com/example/gieres/gieres/model/TupleTable" "width" "I" (.int (0 : Int32)) := F363.other W373 (Or.inl ne179)
    have V_377 : Arv Z h373 a2 ka2 .long (3 : Int32) [(.long t0), (.long t1), (.long t2)] (.long (0 : Int64)) := V_364.other W373 ne180
    have K378 : Keep h0 h373 [a1] := K365.wr W373 (Or.inr sz178)
    have F379 : Fld Z h373 a1 "com/example/gieres/gieres/model/TupleTable" "word" "[I" (.ref b129) := F366.other W373 (Or.inl ne179)
    have F380 : Fld Z h373 a1 "com/example/gieres/gieres/model/TupleTable" "shift" "[I" (.ref b152) := F367.other W373 (Or.inl ne179)
    have F381 : Fld Z h373 a1 "com/example/gieres/gieres/model/TupleTable" "mask" "[J" (.ref b178) := F368.other W373 (Or.inl ne179)
    have V_382 : Arv Z h373 b129 k129 .int (3 : Int32) [(.int (0 : Int32)), (.int (0 : Int32)), (.int (0 : Int32))] (.int (0 : Int32)) := V_370.other W373 ne181
    have V_383 : Arv Z h373 b152 k152 .int (3 : Int32) [(.int (0 : Int32)), (.int c0), (.int (c0 + c1))] (.int (0 : Int32)) := V_371.other W373 ne182
    have V_384 : Arv Z h373 b178 k178 .long (3 : Int32) [(.long (((1 : Int64) <<< (c0 &&& 0x3f).toInt64) - (1 : Int64))), (.long (((1 : Int64) <<< (c1 &&& 0x3f).toInt64) - (1 : Int64))), (.long (((1 : Int64) <<< (c2 &&& 0x3f).toInt64) - (1 : Int64)))] (.long (0 : Int64)) := Arv.set Ar373 qk373 Sz373 Nn373 Ha373 Ga373 rfl W373 2 rfl (Nat.le_of_ble_eq_true rfl)
    have N373 := Fr.snoc X373 N360 gn178
    show Go p e below _ (T373.setTop (mkF m 142 #[.val (.ref a1), .val (.ref a2), .val (.int (1 : Int32)), .val (.int (c0 + c1)), .val (.int (2 : Int32)), .val (.int c2)] []))
    refine Go.st (fun _ => XS.iloadN X373.here hx rfl (hb hby d1_142) rfl) ?_
    show Go p e below _ (T373.setTop (mkF m 143 #[.val (.ref a1), .val (.ref a2), .val (.int (1 : Int32)), .val (.int (c0 + c1)), .val (.int (2 : Int32)), .val (.int c2)] [(.int (c0 + c1))]))
    refine Go.st (fun _ => XS.iload X373.here hx rfl (hb hby d1_143) rfl) ?_
    show Go p e below _ (T373.setTop (mkF m 145 #[.val (.ref a1), .val (.ref a2), .val (.int (1 : Int32)), .val (.int (c0 + c1)), .val (.int (2 : Int32)), .val (.int c2)] [(.int c2), (.int (c0 + c1))]))
    refine Go.st (fun _ => XS.iadd X373.here hx rfl (hb hby d1_145) rfl) ?_
    show Go p e below _ (T373.setTop (mkF m 146 #[.val (.ref a1), .val (.ref a2), .val (.int (1 : Int32)), .val (.int (c0 + c1)), .val (.int (2 : Int32)), .val (.int c2)] [(.int ((c0 + c1) + c2))]))
    refine Go.st (fun _ => XS.istoreN X373.here hx rfl (hb hby d1_146) rfl (l' := #[.val (.ref a1), .val (.ref a2), .val (.int (1 : Int32)), .val (.int ((c0 + c1) + c2)), .val (.int (2 : Int32)), .val (.int c2)]) rfl) ?_
    show Go p e below _ (T373.setTop (mkF m 147 #[.val (.ref a1), .val (.ref a2), .val (.int (1 : Int32)), .val (.int ((c0 + c1) + c2)), .val (.int (2 : Int32)), .val (.int c2)] []))
    refine Go.st (fun _ => XS.iinc X373.here hx rfl (hb hby d1_147) rfl (l' := #[.val (.ref a1), .val (.ref a2), .val (.int (1 : Int32)), .val (.int ((c0 + c1) + c2)), .val (.int (3 : Int32)), .val (.int c2)]) rfl) ?_
    show Go p e below _ (T373.setTop (mkF m 150 #[.val (.ref a1), .val (.ref a2), .val (.int (1 : Int32)), .val (.int ((c0 + c1) + c2)), .val (.int (3 : Int32)), .val (.int c2)] []))
    refine Go.st (fun _ => XS.goto X373.here hx rfl (pc0 := 150) (pc' := 76) rfl (hb hby d1_150) (by decide) (by decide)) ?_
    show Go p e below _ (T373.setTop (mkF m 76 #[.val (.ref a1), .val (.ref a2), .val (.int (1 : Int32)), .val (.int ((c0 + c1) + c2)), .val (.int (3 : Int32)), .val (.int c2)] []))
    refine Go.st (fun _ => XS.iload X373.here hx rfl (hb hby d1_76) rfl) ?_
    show Go p e below _ (T373.setTop (mkF m 78 #[.val (.ref a1), .val (.ref a2), .val (.int (1 : Int32)), .val (.int ((c0 + c1) + c2)), .val (.int (3 : Int32)), .val (.int c2)] [(.int (3 : Int32))]))
    refine Go.st (fun _ => XS.aloadN X373.here hx rfl (hb hby d1_78) rfl rfl) ?_
    show Go p e below _ (T373.setTop (mkF m 79 #[.val (.ref a1), .val (.ref a2), .val (.int (1 : Int32)), .val (.int ((c0 + c1) + c2)), .val (.int (3 : Int32)), .val (.int c2)] [(.ref a2), (.int (3 : Int32))]))
    obtain ⟨cl385, Ar385, qk385, Sz385, Nn385, Ha385, Ga385⟩ := id V_377
    refine Go.st (fun _ => X373.arraylength hx (by rw [e373]; exact Ar385.1) (State.isArrayOf_alike hZ.alike Ar385.2.1) (g := (mkF m 79 #[.val (.ref a1), .val (.ref a2), .val (.int (1 : Int32)), .val (.int ((c0 + c1) + c2)), .val (.int (3 : Int32)), .val (.int c2)] [(.ref a2), (.int (3 : Int32))])) rfl rfl (hb hby d1_79) _) ?_
    rw [len_of Sz385 Nn385]
    show Go p e below _ (T373.setTop (mkF m 80 #[.val (.ref a1), .val (.ref a2), .val (.int (1 : Int32)), .val (.int ((c0 + c1) + c2)), .val (.int (3 : Int32)), .val (.int c2)] [(.int (3 : Int32)), (.int (3 : Int32))]))
    refine Go.st (fun _ => XS.icmpYes X373.here hx rfl (pc0 := 80) (pc' := 153) rfl (hb hby d1_80) rfl (flt (by decide : ¬ ((3 : Int32) < (3 : Int32)))).2.1 (by decide) (by decide)) ?_
    show Go p e below _ (T373.setTop (mkF m 153 #[.val (.ref a1), .val (.ref a2), .val (.int (1 : Int32)), .val (.int ((c0 + c1) + c2)), .val (.int (3 : Int32)), .val (.int c2)] []))
    refine Go.st (fun _ => XS.aloadN X373.here hx rfl (hb hby d1_153) rfl rfl) ?_
    show Go p e below _ (T373.setTop (mkF m 154 #[.val (.ref a1), .val (.ref a2), .val (.int (1 : Int32)), .val (.int ((c0 + c1) + c2)), .val (.int (3 : Int32)), .val (.int c2)] [(.ref a1)]))
    refine Go.st (fun _ => XS.iloadN X373.here hx rfl (hb hby d1_154) rfl) ?_
    show Go p e below _ (T373.setTop (mkF m 155 #[.val (.ref a1), .val (.ref a2), .val (.int (1 : Int32)), .val (.int ((c0 + c1) + c2)), .val (.int (3 : Int32)), .val (.int c2)] [(.int (1 : Int32)), (.ref a1)]))
    obtain ⟨T386, h386, X386, e386, W386, st386⟩ := putF X373 hx hZ hown (host := "") (Or.inl (hw _ (List.mem_of_getElem? (i := 39) rfl))) Via.refl e373 F376 E_375 (Or.inr ⟨(hw _ (List.mem_of_getElem? (i := 40) rfl)), rfl, hnm⟩) (hw _ (List.mem_of_getElem? (i := 2) rfl)) (ty := .int) (by decide) rfl rfl (g := (mkF m 155 #[.val (.ref a1), .val (.ref a2), .val (.int (1 : Int32)), .val (.int ((c0 + c1) + c2)), .val (.int (3 : Int32)), .val (.int c2)] [(.int (1 : Int32)), (.ref a1)])) rfl rfl (hb hby d1_155)
    refine Go.st st386 ?_
    have O387 : Old Z n0 h386 := O374.wr W386 g1
    have E_388 : Exa Z h386 a1 "com/example/gieres/gieres/model/TupleTable" := E_375.wr W386
    have V_389 : Arv Z h386 a2 ka2 .long (3 : Int32) [(.long t0), (.long t1), (.long t2)] (.long (0 : Int64)) := V_377.other W386 ne21
    have K390 : Keep h0 h386 [a1] := K378.wr W386 (Or.inl (List.mem_of_getElem? (i := 0) rfl))
    have F391 : Fld Z h386 a1 "com/example/gieres/gieres/model/TupleTable" "word" "[I" (.ref b129) := F379.other W386 (Or.inr (slot_ne (Or.inr (hw _ (List.mem_of_getElem? (i := 25) rfl))) (Or.inr (hw _ (List.mem_of_getElem? (i := 40) rfl))) (by decide) (t := (.array .int)) (t' := .int) (by decide) (by decide)))
    have F392 : Fld Z h386 a1 "com/example/gieres/gieres/model/TupleTable" "shift" "[I" (.ref b152) := F380.other W386 (Or.inr (slot_ne (Or.inr (hw _ (List.mem_of_getElem? (i := 27) rfl))) (Or.inr (hw _ (List.mem_of_getElem? (i := 40) rfl))) (by decide) (t := (.array .int)) (t' := .int) (by decide) (by decide)))
    have F393 : Fld Z h386 a1 "com/example/gieres/gieres/model/TupleTable" "mask" "[J" (.ref b178) := F381.other W386 (Or.inr (slot_ne (Or.inr (hw _ (List.mem_of_getElem? (i := 29) rfl))) (Or.inr (hw _ (List.mem_of_getElem? (i := 40) rfl))) (by decide) (t := (.array .long)) (t' := .int) (by decide) (by decide)))
    have V_394 : Arv Z h386 b129 k129 .int (3 : Int32) [(.int (0 : Int32)), (.int (0 : Int32)), (.int (0 : Int32))] (.int (0 : Int32)) := V_382.other W386 (Ne.symm ne130)
    have V_395 : Arv Z h386 b152 k152 .int (3 : Int32) [(.int (0 : Int32)), (.int c0), (.int (c0 + c1))] (.int (0 : Int32)) := V_383.other W386 (Ne.symm ne153)
    have V_396 : Arv Z h386 b178 k178 .long (3 : Int32) [(.long (((1 : Int64) <<< (c0 &&& 0x3f).toInt64) - (1 : Int64))), (.long (((1 : Int64) <<< (c1 &&& 0x3f).toInt64) - (1 : Int64))), (.long (((1 : Int64) <<< (c2 &&& 0x3f).toInt64) - (1 : Int64)))] (.long (0 : Int64)) := V_384.other W386 (Ne.symm ne179)
    have F397 : Fld Z h386 a1 "com/example/gieres/gieres/model/TupleTable" "width" "I" (.int (1 : Int32)) := F376.same W386
    have N386 := Fr.snoc X386 N373 g1
    show Go p e below _ (T386.setTop (mkF m 158 #[.val (.ref a1), .val (.ref a2), .val (.int (1 : Int32)), .val (.int ((c0 + c1) + c2)), .val (.int (3 : Int32)), .val (.int c2)] []))
    exact goRetV X386 hx hlk hret e386 (hb hby d1_158) (by decide) (by decide) ⟨rfl, N386, K390, c0, c1, c2, _, _, _, b129, b152, b178, _, _, _, B0, B1, B2, (Or.inl ⟨hc293, rfl, rfl, rfl⟩), F391, V_394, F392, V_395, F393, V_396, F397⟩
theorem d5_0 : decode prog_137_method_6_code 0 = .ok (.iload_n 2, 1) := by decide +kernel
theorem d5_1 : decode prog_137_method_6_code 1 = .ok (.aload_n 0, 1) := by decide +kernel
theorem d5_2 : decode prog_137_method_6_code 2 = .ok (.getfield 29, 3) := by decide +kernel
theorem d5_5 : decode prog_137_method_6_code 5 = .ok (.iload_n 3, 1) := by decide +kernel
theorem d5_6 : decode prog_137_method_6_code 6 = .ok (.iaload, 1) := by decide +kernel
theorem d5_7 : decode prog_137_method_6_code 7 = .ok (.iadd, 1) := by decide +kernel
theorem d5_8 : decode prog_137_method_6_code 8 = .ok (.istore 5, 2) := by decide +kernel
theorem d5_10 : decode prog_137_method_6_code 10 = .ok (.iload 4, 2) := by decide +kernel
theorem d5_12 : decode prog_137_method_6_code 12 = .ok (.i2l, 1) := by decide +kernel
theorem d5_13 : decode prog_137_method_6_code 13 = .ok (.aload_n 0, 1) := by decide +kernel
theorem d5_14 : decode prog_137_method_6_code 14 = .ok (.getfield 35, 3) := by decide +kernel
theorem d5_17 : decode prog_137_method_6_code 17 = .ok (.iload_n 3, 1) := by decide +kernel
theorem d5_18 : decode prog_137_method_6_code 18 = .ok (.laload, 1) := by decide +kernel
theorem d5_19 : decode prog_137_method_6_code 19 = .ok (.land, 1) := by decide +kernel
theorem d5_20 : decode prog_137_method_6_code 20 = .ok (.aload_n 0, 1) := by decide +kernel
theorem d5_21 : decode prog_137_method_6_code 21 = .ok (.getfield 32, 3) := by decide +kernel
theorem d5_24 : decode prog_137_method_6_code 24 = .ok (.iload_n 3, 1) := by decide +kernel
theorem d5_25 : decode prog_137_method_6_code 25 = .ok (.iaload, 1) := by decide +kernel
theorem d5_26 : decode prog_137_method_6_code 26 = .ok (.lshl, 1) := by decide +kernel
theorem d5_27 : decode prog_137_method_6_code 27 = .ok (.lstore 6, 2) := by decide +kernel
theorem d5_29 : decode prog_137_method_6_code 29 = .ok (.aload_n 1, 1) := by decide +kernel
theorem d5_30 : decode prog_137_method_6_code 30 = .ok (.iload 5, 2) := by decide +kernel
theorem d5_32 : decode prog_137_method_6_code 32 = .ok (.aload_n 1, 1) := by decide +kernel
theorem d5_33 : decode prog_137_method_6_code 33 = .ok (.iload 5, 2) := by decide +kernel
theorem d5_35 : decode prog_137_method_6_code 35 = .ok (.laload, 1) := by decide +kernel
theorem d5_36 : decode prog_137_method_6_code 36 = .ok (.aload_n 0, 1) := by decide +kernel
theorem d5_37 : decode prog_137_method_6_code 37 = .ok (.getfield 35, 3) := by decide +kernel
theorem d5_40 : decode prog_137_method_6_code 40 = .ok (.iload_n 3, 1) := by decide +kernel
theorem d5_41 : decode prog_137_method_6_code 41 = .ok (.laload, 1) := by decide +kernel
theorem d5_42 : decode prog_137_method_6_code 42 = .ok (.aload_n 0, 1) := by decide +kernel
theorem d5_43 : decode prog_137_method_6_code 43 = .ok (.getfield 32, 3) := by decide +kernel
theorem d5_46 : decode prog_137_method_6_code 46 = .ok (.iload_n 3, 1) := by decide +kernel
theorem d5_47 : decode prog_137_method_6_code 47 = .ok (.iaload, 1) := by decide +kernel
theorem d5_48 : decode prog_137_method_6_code 48 = .ok (.lshl, 1) := by decide +kernel
theorem d5_49 : decode prog_137_method_6_code 49 = .ok (.ldc2_w 56, 3) := by decide +kernel
theorem d5_52 : decode prog_137_method_6_code 52 = .ok (.lxor, 1) := by decide +kernel
theorem d5_53 : decode prog_137_method_6_code 53 = .ok (.land, 1) := by decide +kernel
theorem d5_54 : decode prog_137_method_6_code 54 = .ok (.lload 6, 2) := by decide +kernel
theorem d5_56 : decode prog_137_method_6_code 56 = .ok (.lor, 1) := by decide +kernel
theorem d5_57 : decode prog_137_method_6_code 57 = .ok (.lastore, 1) := by decide +kernel
theorem d5_58 : decode prog_137_method_6_code 58 = .ok (.return_, 1) := by decide +kernel
theorem pn_5 : plainName "com/example/gieres/gieres/model/TupleTable" = true := by first | (simp [plainName, overriddenIn]; done) | decide +kernel
set_option maxRecDepth 65536 in
set_option maxHeartbeats 40000000 in
theorem rmS0 (l : Launch) (Z : State) (a0 : Array Value) (hw : ∀ d ∈ tables_1, d.before a0 Z = true) (ws : List Jvm.Cond) (a1 a2 aw as am : Addr) (kw ks km : ClassId) (x0 x1 x2 y0 y1 y2 : Int32) (z0 z1 z2 : Int64) (n : Nat) (f : Nat → Int64) (p3 p5 : Int32) (h0 : Heap) (n0 : Nat) (O0 : Old Z n0 h0) (Fw : Fld Z h0 a1 "com/example/gieres/gieres/model/TupleTable" "word" "[I" (.ref aw)) (Vw : Arv Z h0 aw kw .int (3 : Int32) [(.int x0), (.int x1), (.int x2)] (.int (0 : Int32))) (Fsh : Fld Z h0 a1 "com/example/gieres/gieres/model/TupleTable" "shift" "[I" (.ref as)) (Vs : Arv Z h0 as ks .int (3 : Int32) [(.int y0), (.int y1), (.int y2)] (.int (0 : Int32))) (Fm : Fld Z h0 a1 "com/example/gieres/gieres/model/TupleTable" "mask" "[J" (.ref am)) (Vm : Arv Z h0 am km .long (3 : Int32) [(.long z0), (.long z1), (.long z2)] (.long (0 : Int64))) (KA : LAr Z h0 a2 n f) (g2 : n0 ≤ a2) (hj0 : 0 ≤ (p3 + x0).toInt) (hj1 : (p3 + x0).toInt < n) :
    Ctr l (⟨"com/example/gieres/gieres/model/TupleTable", "setState", "([JIII)V"⟩ : MethodName) prog_137_method_6_code 8 none ws ({ frames := 0, cells := 0, slots := 0, locals := 0 } : Room) #[(.ref a1), (.ref a2), (.int p3), (.int (0 : Int32)), (.int p5)] Z h0 (fun v h L => v = none ∧ Fr n0 L ∧ Keep h0 h [a2] ∧ LAr Z h a2 n (fun k => if k = (p3 + x0).toNatClampNeg then own_set (f (p3 + x0).toNatClampNeg) z0 y0 p5 else f k)) := by
  have ef : ∀ m : MethodId, entryFrame m #[(.ref a1), (.ref a2), (.int p3), (.int (0 : Int32)), (.int p5)] 8 = mkF m 0 #[.val (.ref a1), .val (.ref a2), .val (.int p3), .val (.int (0 : Int32)), .val (.int p5), .unset, .unset, .unset] [] := fun m => by first | (simp [entryFrame, mkF, argsToLocals, Value.category]; done) | rfl
  refine Ctr.of (plainFor_of_name pn_5) ?_
  intro p e s m below meth c s₁ hx hZ hby hml hown0 hnm hret hlk X0 e0
  have hown : s.vm.findClass "com/example/gieres/gieres/model/TupleTable" = some m.cls := hown0
  have N0 := Fr.nil n0
  refine Go.st (fun t k => castTop (ef m) k) ?_
  show Go p e below _ (s₁.setTop (mkF m 0 #[.val (.ref a1), .val (.ref a2), .val (.int p3), .val (.int (0 : Int32)), .val (.int p5), .unset, .unset, .unset] []))
  refine Go.st (fun _ => XS.iloadN X0.here hx rfl (hb hby d5_0) rfl) ?_
  show Go p e below _ (s₁.setTop (mkF m 1 #[.val (.ref a1), .val (.ref a2), .val (.int p3), .val (.int (0 : Int32)), .val (.int p5), .unset, .unset, .unset] [(.int p3)]))
  refine Go.st (fun _ => XS.aloadN X0.here hx rfl (hb hby d5_1) rfl rfl) ?_
  show Go p e below _ (s₁.setTop (mkF m 2 #[.val (.ref a1), .val (.ref a2), .val (.int p3), .val (.int (0 : Int32)), .val (.int p5), .unset, .unset, .unset] [(.ref a1), (.int p3)]))
  obtain ⟨T1, X1, e1, st1⟩ := getF X0 hx hZ hown (host := "") (Or.inl (hw _ (List.mem_of_getElem? (i := 24) rfl))) Via.refl e0 Fw (g := (mkF m 2 #[.val (.ref a1), .val (.ref a2), .val (.int p3), .val (.int (0 : Int32)), .val (.int p5), .unset, .unset, .unset] [(.ref a1), (.int p3)])) rfl rfl (hb hby d5_2)
  refine Go.st st1 ?_
  show Go p e below _ (T1.setTop (mkF m 5 #[.val (.ref a1), .val (.ref a2), .val (.int p3), .val (.int (0 : Int32)), .val (.int p5), .unset, .unset, .unset] [(.ref aw), (.int p3)]))
  refine Go.st (fun _ => XS.iloadN X1.here hx rfl (hb hby d5_5) rfl) ?_
  show Go p e below _ (T1.setTop (mkF m 6 #[.val (.ref a1), .val (.ref a2), .val (.int p3), .val (.int (0 : Int32)), .val (.int p5), .unset, .unset, .unset] [(.int (0 : Int32)), (.ref aw), (.int p3)]))
  obtain ⟨cl2, Ar2, qk2, Sz2, Nn2, Ha2, Ga2⟩ := id Vw
  have hin2 : ¬ ((0 : Int32) < 0 ∨ cl2.slots.size ≤ ((0 : Int32) : Int32).toNatClampNeg) := inb_of Sz2 ⟨by decide, by decide⟩
  refine Go.st (fun _ => X1.iaload hx (j := (0 : Int32)) (v := (.int x0)) (by rw [e1]; exact Ar2.1) (State.isArrayOf_alike hZ.alike Ar2.2.1) Ar2.2.2 hin2 (Has.at Ha2 hin2 rfl) (g := (mkF m 6 #[.val (.ref a1), .val (.ref a2), .val (.int p3), .val (.int (0 : Int32)), .val (.int p5), .unset, .unset, .unset] [(.int (0 : Int32)), (.ref aw), (.int p3)])) rfl rfl (hb hby d5_6) _) ?_
  show Go p e below _ (T1.setTop (mkF m 7 #[.val (.ref a1), .val (.ref a2), .val (.int p3), .val (.int (0 : Int32)), .val (.int p5), .unset, .unset, .unset] [(.int x0), (.int p3)]))
  refine Go.st (fun _ => XS.iadd X1.here hx rfl (hb hby d5_7) rfl) ?_
  show Go p e below _ (T1.setTop (mkF m 8 #[.val (.ref a1), .val (.ref a2), .val (.int p3), .val (.int (0 : Int32)), .val (.int p5), .unset, .unset, .unset] [(.int (p3 + x0))]))
  refine Go.st (fun _ => XS.istore X1.here hx rfl (hb hby d5_8) rfl (l' := #[.val (.ref a1), .val (.ref a2), .val (.int p3), .val (.int (0 : Int32)), .val (.int p5), .val (.int (p3 + x0)), .unset, .unset]) rfl) ?_
  show Go p e below _ (T1.setTop (mkF m 10 #[.val (.ref a1), .val (.ref a2), .val (.int p3), .val (.int (0 : Int32)), .val (.int p5), .val (.int (p3 + x0)), .unset, .unset] []))
  refine Go.st (fun _ => XS.iload X1.here hx rfl (hb hby d5_10) rfl) ?_
  show Go p e below _ (T1.setTop (mkF m 12 #[.val (.ref a1), .val (.ref a2), .val (.int p3), .val (.int (0 : Int32)), .val (.int p5), .val (.int (p3 + x0)), .unset, .unset] [(.int p5)]))
  refine Go.st (fun _ => XS.i2l X1.here hx rfl (hb hby d5_12) rfl) ?_
  show Go p e below _ (T1.setTop (mkF m 13 #[.val (.ref a1), .val (.ref a2), .val (.int p3), .val (.int (0 : Int32)), .val (.int p5), .val (.int (p3 + x0)), .unset, .unset] [(.long (p5.toInt64))]))
  refine Go.st (fun _ => XS.aloadN X1.here hx rfl (hb hby d5_13) rfl rfl) ?_
  show Go p e below _ (T1.setTop (mkF m 14 #[.val (.ref a1), .val (.ref a2), .val (.int p3), .val (.int (0 : Int32)), .val (.int p5), .val (.int (p3 + x0)), .unset, .unset] [(.ref a1), (.long (p5.toInt64))]))
  obtain ⟨T3, X3, e3, st3⟩ := getF X1 hx hZ hown (host := "") (Or.inl (hw _ (List.mem_of_getElem? (i := 28) rfl))) Via.refl e1 Fm (g := (mkF m 14 #[.val (.ref a1), .val (.ref a2), .val (.int p3), .val (.int (0 : Int32)), .val (.int p5), .val (.int (p3 + x0)), .unset, .unset] [(.ref a1), (.long (p5.toInt64))])) rfl rfl (hb hby d5_14)
  refine Go.st st3 ?_
  show Go p e below _ (T3.setTop (mkF m 17 #[.val (.ref a1), .val (.ref a2), .val (.int p3), .val (.int (0 : Int32)), .val (.int p5), .val (.int (p3 + x0)), .unset, .unset] [(.ref am), (.long (p5.toInt64))]))
  refine Go.st (fun _ => XS.iloadN X3.here hx rfl (hb hby d5_17) rfl) ?_
  show Go p e below _ (T3.setTop (mkF m 18 #[.val (.ref a1), .val (.ref a2), .val (.int p3), .val (.int (0 : Int32)), .val (.int p5), .val (.int (p3 + x0)), .unset, .unset] [(.int (0 : Int32)), (.ref am), (.long (p5.toInt64))]))
  obtain ⟨cl4, Ar4, qk4, Sz4, Nn4, Ha4, Ga4⟩ := id Vm
  have hin4 : ¬ ((0 : Int32) < 0 ∨ cl4.slots.size ≤ ((0 : Int32) : Int32).toNatClampNeg) := inb_of Sz4 ⟨by decide, by decide⟩
  refine Go.st (fun _ => X3.laload hx (j := (0 : Int32)) (v := (.long z0)) (by rw [e3]; exact Ar4.1) (State.isArrayOf_alike hZ.alike Ar4.2.1) Ar4.2.2 hin4 (Has.at Ha4 hin4 rfl) (g := (mkF m 18 #[.val (.ref a1), .val (.ref a2), .val (.int p3), .val (.int (0 : Int32)), .val (.int p5), .val (.int (p3 + x0)), .unset, .unset] [(.int (0 : Int32)), (.ref am), (.long (p5.toInt64))])) rfl rfl (hb hby d5_18) _) ?_
  show Go p e below _ (T3.setTop (mkF m 19 #[.val (.ref a1), .val (.ref a2), .val (.int p3), .val (.int (0 : Int32)), .val (.int p5), .val (.int (p3 + x0)), .unset, .unset] [(.long z0), (.long (p5.toInt64))]))
  refine Go.st (fun _ => XS.land X3.here hx rfl (hb hby d5_19) rfl) ?_
  show Go p e below _ (T3.setTop (mkF m 20 #[.val (.ref a1), .val (.ref a2), .val (.int p3), .val (.int (0 : Int32)), .val (.int p5), .val (.int (p3 + x0)), .unset, .unset] [(.long ((p5.toInt64) &&& z0))]))
  refine Go.st (fun _ => XS.aloadN X3.here hx rfl (hb hby d5_20) rfl rfl) ?_
  show Go p e below _ (T3.setTop (mkF m 21 #[.val (.ref a1), .val (.ref a2), .val (.int p3), .val (.int (0 : Int32)), .val (.int p5), .val (.int (p3 + x0)), .unset, .unset] [(.ref a1), (.long ((p5.toInt64) &&& z0))]))
  obtain ⟨T5, X5, e5, st5⟩ := getF X3 hx hZ hown (host := "") (Or.inl (hw _ (List.mem_of_getElem? (i := 26) rfl))) Via.refl e3 Fsh (g := (mkF m 21 #[.val (.ref a1), .val (.ref a2), .val (.int p3), .val (.int (0 : Int32)), .val (.int p5), .val (.int (p3 + x0)), .unset, .unset] [(.ref a1), (.long ((p5.toInt64) &&& z0))])) rfl rfl (hb hby d5_21)
  refine Go.st st5 ?_
  show Go p e below _ (T5.setTop (mkF m 24 #[.val (.ref a1), .val (.ref a2), .val (.int p3), .val (.int (0 : Int32)), .val (.int p5), .val (.int (p3 + x0)), .unset, .unset] [(.ref as), (.long ((p5.toInt64) &&& z0))]))
  refine Go.st (fun _ => XS.iloadN X5.here hx rfl (hb hby d5_24) rfl) ?_
  show Go p e below _ (T5.setTop (mkF m 25 #[.val (.ref a1), .val (.ref a2), .val (.int p3), .val (.int (0 : Int32)), .val (.int p5), .val (.int (p3 + x0)), .unset, .unset] [(.int (0 : Int32)), (.ref as), (.long ((p5.toInt64) &&& z0))]))
  obtain ⟨cl6, Ar6, qk6, Sz6, Nn6, Ha6, Ga6⟩ := id Vs
  have hin6 : ¬ ((0 : Int32) < 0 ∨ cl6.slots.size ≤ ((0 : Int32) : Int32).toNatClampNeg) := inb_of Sz6 ⟨by decide, by decide⟩
  refine Go.st (fun _ => X5.iaload hx (j := (0 : Int32)) (v := (.int y0)) (by rw [e5]; exact Ar6.1) (State.isArrayOf_alike hZ.alike Ar6.2.1) Ar6.2.2 hin6 (Has.at Ha6 hin6 rfl) (g := (mkF m 25 #[.val (.ref a1), .val (.ref a2), .val (.int p3), .val (.int (0 : Int32)), .val (.int p5), .val (.int (p3 + x0)), .unset, .unset] [(.int (0 : Int32)), (.ref as), (.long ((p5.toInt64) &&& z0))])) rfl rfl (hb hby d5_25) _) ?_
  show Go p e below _ (T5.setTop (mkF m 26 #[.val (.ref a1), .val (.ref a2), .val (.int p3), .val (.int (0 : Int32)), .val (.int p5), .val (.int (p3 + x0)), .unset, .unset] [(.int y0), (.long ((p5.toInt64) &&& z0))]))
  refine Go.st (fun _ => XS.lshl X5.here hx rfl (hb hby d5_26) rfl) ?_
  show Go p e below _ (T5.setTop (mkF m 27 #[.val (.ref a1), .val (.ref a2), .val (.int p3), .val (.int (0 : Int32)), .val (.int p5), .val (.int (p3 + x0)), .unset, .unset] [(.long (((p5.toInt64) &&& z0) <<< (y0 &&& 0x3f).toInt64))]))
  refine Go.st (fun _ => XS.lstore X5.here hx rfl (hb hby d5_27) rfl (l' := #[.val (.ref a1), .val (.ref a2), .val (.int p3), .val (.int (0 : Int32)), .val (.int p5), .val (.int (p3 + x0)), .val (.long (((p5.toInt64) &&& z0) <<< (y0 &&& 0x3f).toInt64)), .second]) rfl) ?_
  show Go p e below _ (T5.setTop (mkF m 29 #[.val (.ref a1), .val (.ref a2), .val (.int p3), .val (.int (0 : Int32)), .val (.int p5), .val (.int (p3 + x0)), .val (.long (((p5.toInt64) &&& z0) <<< (y0 &&& 0x3f).toInt64)), .second] []))
  refine Go.st (fun _ => XS.aloadN X5.here hx rfl (hb hby d5_29) rfl rfl) ?_
  show Go p e below _ (T5.setTop (mkF m 30 #[.val (.ref a1), .val (.ref a2), .val (.int p3), .val (.int (0 : Int32)), .val (.int p5), .val (.int (p3 + x0)), .val (.long (((p5.toInt64) &&& z0) <<< (y0 &&& 0x3f).toInt64)), .second] [(.ref a2)]))
  refine Go.st (fun _ => XS.iload X5.here hx rfl (hb hby d5_30) rfl) ?_
  show Go p e below _ (T5.setTop (mkF m 32 #[.val (.ref a1), .val (.ref a2), .val (.int p3), .val (.int (0 : Int32)), .val (.int p5), .val (.int (p3 + x0)), .val (.long (((p5.toInt64) &&& z0) <<< (y0 &&& 0x3f).toInt64)), .second] [(.int (p3 + x0)), (.ref a2)]))
  refine Go.st (fun _ => XS.aloadN X5.here hx rfl (hb hby d5_32) rfl rfl) ?_
  show Go p e below _ (T5.setTop (mkF m 33 #[.val (.ref a1), .val (.ref a2), .val (.int p3), .val (.int (0 : Int32)), .val (.int p5), .val (.int (p3 + x0)), .val (.long (((p5.toInt64) &&& z0) <<< (y0 &&& 0x3f).toInt64)), .second] [(.ref a2), (.int (p3 + x0)), (.ref a2)]))
  refine Go.st (fun _ => XS.iload X5.here hx rfl (hb hby d5_33) rfl) ?_
  show Go p e below _ (T5.setTop (mkF m 35 #[.val (.ref a1), .val (.ref a2), .val (.int p3), .val (.int (0 : Int32)), .val (.int p5), .val (.int (p3 + x0)), .val (.long (((p5.toInt64) &&& z0) <<< (y0 &&& 0x3f).toInt64)), .second] [(.int (p3 + x0)), (.ref a2), (.int (p3 + x0)), (.ref a2)]))
  obtain ⟨cl7, Ar7, hin7, hat7, -⟩ := LAr_in KA (j := (p3 + x0)) hj0 hj1
  refine Go.st (fun _ => X5.laload hx (j := (p3 + x0)) (v := (.long (f ((p3 + x0)).toNatClampNeg))) (by rw [e5]; exact Ar7.1) (State.isArrayOf_alike hZ.alike Ar7.2.1) Ar7.2.2 hin7 hat7 (g := (mkF m 35 #[.val (.ref a1), .val (.ref a2), .val (.int p3), .val (.int (0 : Int32)), .val (.int p5), .val (.int (p3 + x0)), .val (.long (((p5.toInt64) &&& z0) <<< (y0 &&& 0x3f).toInt64)), .second] [(.int (p3 + x0)), (.ref a2), (.int (p3 + x0)), (.ref a2)])) rfl rfl (hb hby d5_35) _) ?_
  show Go p e below _ (T5.setTop (mkF m 36 #[.val (.ref a1), .val (.ref a2), .val (.int p3), .val (.int (0 : Int32)), .val (.int p5), .val (.int (p3 + x0)), .val (.long (((p5.toInt64) &&& z0) <<< (y0 &&& 0x3f).toInt64)), .second] [(.long (f ((p3 + x0)).toNatClampNeg)), (.int (p3 + x0)), (.ref a2)]))
  refine Go.st (fun _ => XS.aloadN X5.here hx rfl (hb hby d5_36) rfl rfl) ?_
  show Go p e below _ (T5.setTop (mkF m 37 #[.val (.ref a1), .val (.ref a2), .val (.int p3), .val (.int (0 : Int32)), .val (.int p5), .val (.int (p3 + x0)), .val (.long (((p5.toInt64) &&& z0) <<< (y0 &&& 0x3f).toInt64)), .second] [(.ref a1), (.long (f ((p3 + x0)).toNatClampNeg)), (.int (p3 + x0)), (.ref a2)]))
  obtain ⟨T8, X8, e8, st8⟩ := getF X5 hx hZ hown (host := "") (Or.inl (hw _ (List.mem_of_getElem? (i := 28) rfl))) Via.refl e5 Fm (g := (mkF m 37 #[.val (.ref a1), .val (.ref a2), .val (.int p3), .val (.int (0 : Int32)), .val (.int p5), .val (.int (p3 + x0)), .val (.long (((p5.toInt64) &&& z0) <<< (y0 &&& 0x3f).toInt64)), .second] [(.ref a1), (.long (f ((p3 + x0)).toNatClampNeg)), (.int (p3 + x0)), (.ref a2)])) rfl rfl (hb hby d5_37)
  refine Go.st st8 ?_
  show Go p e below _ (T8.setTop (mkF m 40 #[.val (.ref a1), .val (.ref a2), .val (.int p3), .val (.int (0 : Int32)), .val (.int p5), .val (.int (p3 + x0)), .val (.long (((p5.toInt64) &&& z0) <<< (y0 &&& 0x3f).toInt64)), .second] [(.ref am), (.long (f ((p3 + x0)).toNatClampNeg)), (.int (p3 + x0)), (.ref a2)]))
  refine Go.st (fun _ => XS.iloadN X8.here hx rfl (hb hby d5_40) rfl) ?_
  show Go p e below _ (T8.setTop (mkF m 41 #[.val (.ref a1), .val (.ref a2), .val (.int p3), .val (.int (0 : Int32)), .val (.int p5), .val (.int (p3 + x0)), .val (.long (((p5.toInt64) &&& z0) <<< (y0 &&& 0x3f).toInt64)), .second] [(.int (0 : Int32)), (.ref am), (.long (f ((p3 + x0)).toNatClampNeg)), (.int (p3 + x0)), (.ref a2)]))
  obtain ⟨cl9, Ar9, qk9, Sz9, Nn9, Ha9, Ga9⟩ := id Vm
  have hin9 : ¬ ((0 : Int32) < 0 ∨ cl9.slots.size ≤ ((0 : Int32) : Int32).toNatClampNeg) := inb_of Sz9 ⟨by decide, by decide⟩
  refine Go.st (fun _ => X8.laload hx (j := (0 : Int32)) (v := (.long z0)) (by rw [e8]; exact Ar9.1) (State.isArrayOf_alike hZ.alike Ar9.2.1) Ar9.2.2 hin9 (Has.at Ha9 hin9 rfl) (g := (mkF m 41 #[.val (.ref a1), .val (.ref a2), .val (.int p3), .val (.int (0 : Int32)), .val (.int p5), .val (.int (p3 + x0)), .val (.long (((p5.toInt64) &&& z0) <<< (y0 &&& 0x3f).toInt64)), .second] [(.int (0 : Int32)), (.ref am), (.long (f ((p3 + x0)).toNatClampNeg)), (.int (p3 + x0)), (.ref a2)])) rfl rfl (hb hby d5_41) _) ?_
  show Go p e below _ (T8.setTop (mkF m 42 #[.val (.ref a1), .val (.ref a2), .val (.int p3), .val (.int (0 : Int32)), .val (.int p5), .val (.int (p3 + x0)), .val (.long (((p5.toInt64) &&& z0) <<< (y0 &&& 0x3f).toInt64)), .second] [(.long z0), (.long (f ((p3 + x0)).toNatClampNeg)), (.int (p3 + x0)), (.ref a2)]))
  refine Go.st (fun _ => XS.aloadN X8.here hx rfl (hb hby d5_42) rfl rfl) ?_
  show Go p e below _ (T8.setTop (mkF m 43 #[.val (.ref a1), .val (.ref a2), .val (.int p3), .val (.int (0 : Int32)), .val (.int p5), .val (.int (p3 + x0)), .val (.long (((p5.toInt64) &&& z0) <<< (y0 &&& 0x3f).toInt64)), .second] [(.ref a1), (.long z0), (.long (f ((p3 + x0)).toNatClampNeg)), (.int (p3 + x0)), (.ref a2)]))
  obtain ⟨T10, X10, e10, st10⟩ := getF X8 hx hZ hown (host := "") (Or.inl (hw _ (List.mem_of_getElem? (i := 26) rfl))) Via.refl e8 Fsh (g := (mkF m 43 #[.val (.ref a1), .val (.ref a2), .val (.int p3), .val (.int (0 : Int32)), .val (.int p5), .val (.int (p3 + x0)), .val (.long (((p5.toInt64) &&& z0) <<< (y0 &&& 0x3f).toInt64)), .second] [(.ref a1), (.long z0), (.long (f ((p3 + x0)).toNatClampNeg)), (.int (p3 + x0)), (.ref a2)])) rfl rfl (hb hby d5_43)
  refine Go.st st10 ?_
  show Go p e below _ (T10.setTop (mkF m 46 #[.val (.ref a1), .val (.ref a2), .val (.int p3), .val (.int (0 : Int32)), .val (.int p5), .val (.int (p3 + x0)), .val (.long (((p5.toInt64) &&& z0) <<< (y0 &&& 0x3f).toInt64)), .second] [(.ref as), (.long z0), (.long (f ((p3 + x0)).toNatClampNeg)), (.int (p3 + x0)), (.ref a2)]))
  refine Go.st (fun _ => XS.iloadN X10.here hx rfl (hb hby d5_46) rfl) ?_
  show Go p e below _ (T10.setTop (mkF m 47 #[.val (.ref a1), .val (.ref a2), .val (.int p3), .val (.int (0 : Int32)), .val (.int p5), .val (.int (p3 + x0)), .val (.long (((p5.toInt64) &&& z0) <<< (y0 &&& 0x3f).toInt64)), .second] [(.int (0 : Int32)), (.ref as), (.long z0), (.long (f ((p3 + x0)).toNatClampNeg)), (.int (p3 + x0)), (.ref a2)]))
  obtain ⟨cl11, Ar11, qk11, Sz11, Nn11, Ha11, Ga11⟩ := id Vs
  have hin11 : ¬ ((0 : Int32) < 0 ∨ cl11.slots.size ≤ ((0 : Int32) : Int32).toNatClampNeg) := inb_of Sz11 ⟨by decide, by decide⟩
  refine Go.st (fun _ => X10.iaload hx (j := (0 : Int32)) (v := (.int y0)) (by rw [e10]; exact Ar11.1) (State.isArrayOf_alike hZ.alike Ar11.2.1) Ar11.2.2 hin11 (Has.at Ha11 hin11 rfl) (g := (mkF m 47 #[.val (.ref a1), .val (.ref a2), .val (.int p3), .val (.int (0 : Int32)), .val (.int p5), .val (.int (p3 + x0)), .val (.long (((p5.toInt64) &&& z0) <<< (y0 &&& 0x3f).toInt64)), .second] [(.int (0 : Int32)), (.ref as), (.long z0), (.long (f ((p3 + x0)).toNatClampNeg)), (.int (p3 + x0)), (.ref a2)])) rfl rfl (hb hby d5_47) _) ?_
  show Go p e below _ (T10.setTop (mkF m 48 #[.val (.ref a1), .val (.ref a2), .val (.int p3), .val (.int (0 : Int32)), .val (.int p5), .val (.int (p3 + x0)), .val (.long (((p5.toInt64) &&& z0) <<< (y0 &&& 0x3f).toInt64)), .second] [(.int y0), (.long z0), (.long (f ((p3 + x0)).toNatClampNeg)), (.int (p3 + x0)), (.ref a2)]))
  refine Go.st (fun _ => XS.lshl X10.here hx rfl (hb hby d5_48) rfl) ?_
  show Go p e below _ (T10.setTop (mkF m 49 #[.val (.ref a1), .val (.ref a2), .val (.int p3), .val (.int (0 : Int32)), .val (.int p5), .val (.int (p3 + x0)), .val (.long (((p5.toInt64) &&& z0) <<< (y0 &&& 0x3f).toInt64)), .second] [(.long (z0 <<< (y0 &&& 0x3f).toInt64)), (.long (f ((p3 + x0)).toNatClampNeg)), (.int (p3 + x0)), (.ref a2)]))
  refine Go.st (fun _ => X10.ldc2Long hx hown (mvT hZ (hw _ (List.mem_of_getElem? (i := 47) rfl))) (g := (mkF m 49 #[.val (.ref a1), .val (.ref a2), .val (.int p3), .val (.int (0 : Int32)), .val (.int p5), .val (.int (p3 + x0)), .val (.long (((p5.toInt64) &&& z0) <<< (y0 &&& 0x3f).toInt64)), .second] [(.long (z0 <<< (y0 &&& 0x3f).toInt64)), (.long (f ((p3 + x0)).toNatClampNeg)), (.int (p3 + x0)), (.ref a2)])) rfl (hb hby d5_49) _) ?_
  show Go p e below _ (T10.setTop (mkF m 52 #[.val (.ref a1), .val (.ref a2), .val (.int p3), .val (.int (0 : Int32)), .val (.int p5), .val (.int (p3 + x0)), .val (.long (((p5.toInt64) &&& z0) <<< (y0 &&& 0x3f).toInt64)), .second] [(.long (-1 : Int64)), (.long (z0 <<< (y0 &&& 0x3f).toInt64)), (.long (f ((p3 + x0)).toNatClampNeg)), (.int (p3 + x0)), (.ref a2)]))
  refine Go.st (fun _ => XS.lxor X10.here hx rfl (hb hby d5_52) rfl) ?_
  show Go p e below _ (T10.setTop (mkF m 53 #[.val (.ref a1), .val (.ref a2), .val (.int p3), .val (.int (0 : Int32)), .val (.int p5), .val (.int (p3 + x0)), .val (.long (((p5.toInt64) &&& z0) <<< (y0 &&& 0x3f).toInt64)), .second] [(.long ((z0 <<< (y0 &&& 0x3f).toInt64) ^^^ (-1 : Int64))), (.long (f ((p3 + x0)).toNatClampNeg)), (.int (p3 + x0)), (.ref a2)]))
  refine Go.st (fun _ => XS.land X10.here hx rfl (hb hby d5_53) rfl) ?_
  show Go p e below _ (T10.setTop (mkF m 54 #[.val (.ref a1), .val (.ref a2), .val (.int p3), .val (.int (0 : Int32)), .val (.int p5), .val (.int (p3 + x0)), .val (.long (((p5.toInt64) &&& z0) <<< (y0 &&& 0x3f).toInt64)), .second] [(.long ((f ((p3 + x0)).toNatClampNeg) &&& ((z0 <<< (y0 &&& 0x3f).toInt64) ^^^ (-1 : Int64)))), (.int (p3 + x0)), (.ref a2)]))
  refine Go.st (fun _ => XS.lload X10.here hx rfl (hb hby d5_54) rfl) ?_
  show Go p e below _ (T10.setTop (mkF m 56 #[.val (.ref a1), .val (.ref a2), .val (.int p3), .val (.int (0 : Int32)), .val (.int p5), .val (.int (p3 + x0)), .val (.long (((p5.toInt64) &&& z0) <<< (y0 &&& 0x3f).toInt64)), .second] [(.long (((p5.toInt64) &&& z0) <<< (y0 &&& 0x3f).toInt64)), (.long ((f ((p3 + x0)).toNatClampNeg) &&& ((z0 <<< (y0 &&& 0x3f).toInt64) ^^^ (-1 : Int64)))), (.int (p3 + x0)), (.ref a2)]))
  refine Go.st (fun _ => XS.lor X10.here hx rfl (hb hby d5_56) rfl) ?_
  show Go p e below _ (T10.setTop (mkF m 57 #[.val (.ref a1), .val (.ref a2), .val (.int p3), .val (.int (0 : Int32)), .val (.int p5), .val (.int (p3 + x0)), .val (.long (((p5.toInt64) &&& z0) <<< (y0 &&& 0x3f).toInt64)), .second] [(.long (((f ((p3 + x0)).toNatClampNeg) &&& ((z0 <<< (y0 &&& 0x3f).toInt64) ^^^ (-1 : Int64))) ||| (((p5.toInt64) &&& z0) <<< (y0 &&& 0x3f).toInt64))), (.int (p3 + x0)), (.ref a2)]))
  obtain ⟨cl12, Ar12, hin12, hat12, Sz12, Nn12, Ha12⟩ := LAr_in KA (j := (p3 + x0)) hj0 hj1
  obtain ⟨T12, h12, X12, e12, W12, st12⟩ := stJ X10 hx hZ e10 Ar12 (j := (p3 + x0)) hin12 (g := (mkF m 57 #[.val (.ref a1), .val (.ref a2), .val (.int p3), .val (.int (0 : Int32)), .val (.int p5), .val (.int (p3 + x0)), .val (.long (((p5.toInt64) &&& z0) <<< (y0 &&& 0x3f).toInt64)), .second] [(.long (((f ((p3 + x0)).toNatClampNeg) &&& ((z0 <<< (y0 &&& 0x3f).toInt64) ^^^ (-1 : Int64))) ||| (((p5.toInt64) &&& z0) <<< (y0 &&& 0x3f).toInt64))), (.int (p3 + x0)), (.ref a2)])) rfl rfl (hb hby d5_57)
  refine Go.st st12 ?_
  have O13 : Old Z n0 h12 := O0.wr W12 g2
  have K14 : Keep h0 h12 [a2] := (Keep.refl h0 [a2]).wr W12 (Or.inl (List.mem_of_getElem? (i := 0) rfl))
  have VL15 : LAr Z h12 a2 n (fun k => if k = ((p3 + x0)).toNatClampNeg then (((f ((p3 + x0)).toNatClampNeg) &&& ((z0 <<< (y0 &&& 0x3f).toInt64) ^^^ (-1 : Int64))) ||| (((p5.toInt64) &&& z0) <<< (y0 &&& 0x3f).toInt64)) else f k) := LAr_set Ar12 Sz12 Nn12 Ha12 W12
  have N12 := Fr.snoc X12 N0 g2
  show Go p e below _ (T12.setTop (mkF m 58 #[.val (.ref a1), .val (.ref a2), .val (.int p3), .val (.int (0 : Int32)), .val (.int p5), .val (.int (p3 + x0)), .val (.long (((p5.toInt64) &&& z0) <<< (y0 &&& 0x3f).toInt64)), .second] []))
  exact goRetV X12 hx hlk hret e12 (hb hby d5_58) (by decide) (by decide) ⟨rfl, N12, K14, VL15⟩
set_option maxRecDepth 65536 in
set_option maxHeartbeats 40000000 in
theorem rmS1 (l : Launch) (Z : State) (a0 : Array Value) (hw : ∀ d ∈ tables_1, d.before a0 Z = true) (ws : List Jvm.Cond) (a1 a2 aw as am : Addr) (kw ks km : ClassId) (x0 x1 x2 y0 y1 y2 : Int32) (z0 z1 z2 : Int64) (n : Nat) (f : Nat → Int64) (p3 p5 : Int32) (h0 : Heap) (n0 : Nat) (O0 : Old Z n0 h0) (Fw : Fld Z h0 a1 "com/example/gieres/gieres/model/TupleTable" "word" "[I" (.ref aw)) (Vw : Arv Z h0 aw kw .int (3 : Int32) [(.int x0), (.int x1), (.int x2)] (.int (0 : Int32))) (Fsh : Fld Z h0 a1 "com/example/gieres/gieres/model/TupleTable" "shift" "[I" (.ref as)) (Vs : Arv Z h0 as ks .int (3 : Int32) [(.int y0), (.int y1), (.int y2)] (.int (0 : Int32))) (Fm : Fld Z h0 a1 "com/example/gieres/gieres/model/TupleTable" "mask" "[J" (.ref am)) (Vm : Arv Z h0 am km .long (3 : Int32) [(.long z0), (.long z1), (.long z2)] (.long (0 : Int64))) (KA : LAr Z h0 a2 n f) (g2 : n0 ≤ a2) (hj0 : 0 ≤ (p3 + x1).toInt) (hj1 : (p3 + x1).toInt < n) :
    Ctr l (⟨"com/example/gieres/gieres/model/TupleTable", "setState", "([JIII)V"⟩ : MethodName) prog_137_method_6_code 8 none ws ({ frames := 0, cells := 0, slots := 0, locals := 0 } : Room) #[(.ref a1), (.ref a2), (.int p3), (.int (1 : Int32)), (.int p5)] Z h0 (fun v h L => v = none ∧ Fr n0 L ∧ Keep h0 h [a2] ∧ LAr Z h a2 n (fun k => if k = (p3 + x1).toNatClampNeg then own_set (f (p3 + x1).toNatClampNeg) z1 y1 p5 else f k)) := by
  have ef : ∀ m : MethodId, entryFrame m #[(.ref a1), (.ref a2), (.int p3), (.int (1 : Int32)), (.int p5)] 8 = mkF m 0 #[.val (.ref a1), .val (.ref a2), .val (.int p3), .val (.int (1 : Int32)), .val (.int p5), .unset, .unset, .unset] [] := fun m => by first | (simp [entryFrame, mkF, argsToLocals, Value.category]; done) | rfl
  refine Ctr.of (plainFor_of_name pn_5) ?_
  intro p e s m below meth c s₁ hx hZ hby hml hown0 hnm hret hlk X0 e0
  have hown : s.vm.findClass "com/example/gieres/gieres/model/TupleTable" = some m.cls := hown0
  have N0 := Fr.nil n0
  refine Go.st (fun t k => castTop (ef m) k) ?_
  show Go p e below _ (s₁.setTop (mkF m 0 #[.val (.ref a1), .val (.ref a2), .val (.int p3), .val (.int (1 : Int32)), .val (.int p5), .unset, .unset, .unset] []))
  refine Go.st (fun _ => XS.iloadN X0.here hx rfl (hb hby d5_0) rfl) ?_
  show Go p e below _ (s₁.setTop (mkF m 1 #[.val (.ref a1), .val (.ref a2), .val (.int p3), .val (.int (1 : Int32)), .val (.int p5), .unset, .unset, .unset] [(.int p3)]))
  refine Go.st (fun _ => XS.aloadN X0.here hx rfl (hb hby d5_1) rfl rfl) ?_
  show Go p e below _ (s₁.setTop (mkF m 2 #[.val (.ref a1), .val (.ref a2), .val (.int p3), .val (.int (1 : Int32)), .val (.int p5), .unset, .unset, .unset] [(.ref a1), (.int p3)]))
  obtain ⟨T1, X1, e1, st1⟩ := getF X0 hx hZ hown (host := "") (Or.inl (hw _ (List.mem_of_getElem? (i := 24) rfl))) Via.refl e0 Fw (g := (mkF m 2 #[.val (.ref a1), .val (.ref a2), .val (.int p3), .val (.int (1 : Int32)), .val (.int p5), .unset, .unset, .unset] [(.ref a1), (.int p3)])) rfl rfl (hb hby d5_2)
  refine Go.st st1 ?_
  show Go p e below _ (T1.setTop (mkF m 5 #[.val (.ref a1), .val (.ref a2), .val (.int p3), .val (.int (1 : Int32)), .val (.int p5), .unset, .unset, .unset] [(.ref aw), (.int p3)]))
  refine Go.st (fun _ => XS.iloadN X1.here hx rfl (hb hby d5_5) rfl) ?_
  show Go p e below _ (T1.setTop (mkF m 6 #[.val (.ref a1), .val (.ref a2), .val (.int p3), .val (.int (1 : Int32)), .val (.int p5), .unset, .unset, .unset] [(.int (1 : Int32)), (.ref aw), (.int p3)]))
  obtain ⟨cl2, Ar2, qk2, Sz2, Nn2, Ha2, Ga2⟩ := id Vw
  have hin2 : ¬ ((1 : Int32) < 0 ∨ cl2.slots.size ≤ ((1 : Int32) : Int32).toNatClampNeg) := inb_of Sz2 ⟨by decide, by decide⟩
  refine Go.st (fun _ => X1.iaload hx (j := (1 : Int32)) (v := (.int x1)) (by rw [e1]; exact Ar2.1) (State.isArrayOf_alike hZ.alike Ar2.2.1) Ar2.2.2 hin2 (Has.at Ha2 hin2 rfl) (g := (mkF m 6 #[.val (.ref a1), .val (.ref a2), .val (.int p3), .val (.int (1 : Int32)), .val (.int p5), .unset, .unset, .unset] [(.int (1 : Int32)), (.ref aw), (.int p3)])) rfl rfl (hb hby d5_6) _) ?_
  show Go p e below _ (T1.setTop (mkF m 7 #[.val (.ref a1), .val (.ref a2), .val (.int p3), .val (.int (1 : Int32)), .val (.int p5), .unset, .unset, .unset] [(.int x1), (.int p3)]))
  refine Go.st (fun _ => XS.iadd X1.here hx rfl (hb hby d5_7) rfl) ?_
  show Go p e below _ (T1.setTop (mkF m 8 #[.val (.ref a1), .val (.ref a2), .val (.int p3), .val (.int (1 : Int32)), .val (.int p5), .unset, .unset, .unset] [(.int (p3 + x1))]))
  refine Go.st (fun _ => XS.istore X1.here hx rfl (hb hby d5_8) rfl (l' := #[.val (.ref a1), .val (.ref a2), .val (.int p3), .val (.int (1 : Int32)), .val (.int p5), .val (.int (p3 + x1)), .unset, .unset]) rfl) ?_
  show Go p e below _ (T1.setTop (mkF m 10 #[.val (.ref a1), .val (.ref a2), .val (.int p3), .val (.int (1 : Int32)), .val (.int p5), .val (.int (p3 + x1)), .unset, .unset] []))
  refine Go.st (fun _ => XS.iload X1.here hx rfl (hb hby d5_10) rfl) ?_
  show Go p e below _ (T1.setTop (mkF m 12 #[.val (.ref a1), .val (.ref a2), .val (.int p3), .val (.int (1 : Int32)), .val (.int p5), .val (.int (p3 + x1)), .unset, .unset] [(.int p5)]))
  refine Go.st (fun _ => XS.i2l X1.here hx rfl (hb hby d5_12) rfl) ?_
  show Go p e below _ (T1.setTop (mkF m 13 #[.val (.ref a1), .val (.ref a2), .val (.int p3), .val (.int (1 : Int32)), .val (.int p5), .val (.int (p3 + x1)), .unset, .unset] [(.long (p5.toInt64))]))
  refine Go.st (fun _ => XS.aloadN X1.here hx rfl (hb hby d5_13) rfl rfl) ?_
  show Go p e below _ (T1.setTop (mkF m 14 #[.val (.ref a1), .val (.ref a2), .val (.int p3), .val (.int (1 : Int32)), .val (.int p5), .val (.int (p3 + x1)), .unset, .unset] [(.ref a1), (.long (p5.toInt64))]))
  obtain ⟨T3, X3, e3, st3⟩ := getF X1 hx hZ hown (host := "") (Or.inl (hw _ (List.mem_of_getElem? (i := 28) rfl))) Via.refl e1 Fm (g := (mkF m 14 #[.val (.ref a1), .val (.ref a2), .val (.int p3), .val (.int (1 : Int32)), .val (.int p5), .val (.int (p3 + x1)), .unset, .unset] [(.ref a1), (.long (p5.toInt64))])) rfl rfl (hb hby d5_14)
  refine Go.st st3 ?_
  show Go p e below _ (T3.setTop (mkF m 17 #[.val (.ref a1), .val (.ref a2), .val (.int p3), .val (.int (1 : Int32)), .val (.int p5), .val (.int (p3 + x1)), .unset, .unset] [(.ref am), (.long (p5.toInt64))]))
  refine Go.st (fun _ => XS.iloadN X3.here hx rfl (hb hby d5_17) rfl) ?_
  show Go p e below _ (T3.setTop (mkF m 18 #[.val (.ref a1), .val (.ref a2), .val (.int p3), .val (.int (1 : Int32)), .val (.int p5), .val (.int (p3 + x1)), .unset, .unset] [(.int (1 : Int32)), (.ref am), (.long (p5.toInt64))]))
  obtain ⟨cl4, Ar4, qk4, Sz4, Nn4, Ha4, Ga4⟩ := id Vm
  have hin4 : ¬ ((1 : Int32) < 0 ∨ cl4.slots.size ≤ ((1 : Int32) : Int32).toNatClampNeg) := inb_of Sz4 ⟨by decide, by decide⟩
  refine Go.st (fun _ => X3.laload hx (j := (1 : Int32)) (v := (.long z1)) (by rw [e3]; exact Ar4.1) (State.isArrayOf_alike hZ.alike Ar4.2.1) Ar4.2.2 hin4 (Has.at Ha4 hin4 rfl) (g := (mkF m 18 #[.val (.ref a1), .val (.ref a2), .val (.int p3), .val (.int (1 : Int32)), .val (.int p5), .val (.int (p3 + x1)), .unset, .unset] [(.int (1 : Int32)), (.ref am), (.long (p5.toInt64))])) rfl rfl (hb hby d5_18) _) ?_
  show Go p e below _ (T3.setTop (mkF m 19 #[.val (.ref a1), .val (.ref a2), .val (.int p3), .val (.int (1 : Int32)), .val (.int p5), .val (.int (p3 + x1)), .unset, .unset] [(.long z1), (.long (p5.toInt64))]))
  refine Go.st (fun _ => XS.land X3.here hx rfl (hb hby d5_19) rfl) ?_
  show Go p e below _ (T3.setTop (mkF m 20 #[.val (.ref a1), .val (.ref a2), .val (.int p3), .val (.int (1 : Int32)), .val (.int p5), .val (.int (p3 + x1)), .unset, .unset] [(.long ((p5.toInt64) &&& z1))]))
  refine Go.st (fun _ => XS.aloadN X3.here hx rfl (hb hby d5_20) rfl rfl) ?_
  show Go p e below _ (T3.setTop (mkF m 21 #[.val (.ref a1), .val (.ref a2), .val (.int p3), .val (.int (1 : Int32)), .val (.int p5), .val (.int (p3 + x1)), .unset, .unset] [(.ref a1), (.long ((p5.toInt64) &&& z1))]))
  obtain ⟨T5, X5, e5, st5⟩ := getF X3 hx hZ hown (host := "") (Or.inl (hw _ (List.mem_of_getElem? (i := 26) rfl))) Via.refl e3 Fsh (g := (mkF m 21 #[.val (.ref a1), .val (.ref a2), .val (.int p3), .val (.int (1 : Int32)), .val (.int p5), .val (.int (p3 + x1)), .unset, .unset] [(.ref a1), (.long ((p5.toInt64) &&& z1))])) rfl rfl (hb hby d5_21)
  refine Go.st st5 ?_
  show Go p e below _ (T5.setTop (mkF m 24 #[.val (.ref a1), .val (.ref a2), .val (.int p3), .val (.int (1 : Int32)), .val (.int p5), .val (.int (p3 + x1)), .unset, .unset] [(.ref as), (.long ((p5.toInt64) &&& z1))]))
  refine Go.st (fun _ => XS.iloadN X5.here hx rfl (hb hby d5_24) rfl) ?_
  show Go p e below _ (T5.setTop (mkF m 25 #[.val (.ref a1), .val (.ref a2), .val (.int p3), .val (.int (1 : Int32)), .val (.int p5), .val (.int (p3 + x1)), .unset, .unset] [(.int (1 : Int32)), (.ref as), (.long ((p5.toInt64) &&& z1))]))
  obtain ⟨cl6, Ar6, qk6, Sz6, Nn6, Ha6, Ga6⟩ := id Vs
  have hin6 : ¬ ((1 : Int32) < 0 ∨ cl6.slots.size ≤ ((1 : Int32) : Int32).toNatClampNeg) := inb_of Sz6 ⟨by decide, by decide⟩
  refine Go.st (fun _ => X5.iaload hx (j := (1 : Int32)) (v := (.int y1)) (by rw [e5]; exact Ar6.1) (State.isArrayOf_alike hZ.alike Ar6.2.1) Ar6.2.2 hin6 (Has.at Ha6 hin6 rfl) (g := (mkF m 25 #[.val (.ref a1), .val (.ref a2), .val (.int p3), .val (.int (1 : Int32)), .val (.int p5), .val (.int (p3 + x1)), .unset, .unset] [(.int (1 : Int32)), (.ref as), (.long ((p5.toInt64) &&& z1))])) rfl rfl (hb hby d5_25) _) ?_
  show Go p e below _ (T5.setTop (mkF m 26 #[.val (.ref a1), .val (.ref a2), .val (.int p3), .val (.int (1 : Int32)), .val (.int p5), .val (.int (p3 + x1)), .unset, .unset] [(.int y1), (.long ((p5.toInt64) &&& z1))]))
  refine Go.st (fun _ => XS.lshl X5.here hx rfl (hb hby d5_26) rfl) ?_
  show Go p e below _ (T5.setTop (mkF m 27 #[.val (.ref a1), .val (.ref a2), .val (.int p3), .val (.int (1 : Int32)), .val (.int p5), .val (.int (p3 + x1)), .unset, .unset] [(.long (((p5.toInt64) &&& z1) <<< (y1 &&& 0x3f).toInt64))]))
  refine Go.st (fun _ => XS.lstore X5.here hx rfl (hb hby d5_27) rfl (l' := #[.val (.ref a1), .val (.ref a2), .val (.int p3), .val (.int (1 : Int32)), .val (.int p5), .val (.int (p3 + x1)), .val (.long (((p5.toInt64) &&& z1) <<< (y1 &&& 0x3f).toInt64)), .second]) rfl) ?_
  show Go p e below _ (T5.setTop (mkF m 29 #[.val (.ref a1), .val (.ref a2), .val (.int p3), .val (.int (1 : Int32)), .val (.int p5), .val (.int (p3 + x1)), .val (.long (((p5.toInt64) &&& z1) <<< (y1 &&& 0x3f).toInt64)), .second] []))
  refine Go.st (fun _ => XS.aloadN X5.here hx rfl (hb hby d5_29) rfl rfl) ?_
  show Go p e below _ (T5.setTop (mkF m 30 #[.val (.ref a1), .val (.ref a2), .val (.int p3), .val (.int (1 : Int32)), .val (.int p5), .val (.int (p3 + x1)), .val (.long (((p5.toInt64) &&& z1) <<< (y1 &&& 0x3f).toInt64)), .second] [(.ref a2)]))
  refine Go.st (fun _ => XS.iload X5.here hx rfl (hb hby d5_30) rfl) ?_
  show Go p e below _ (T5.setTop (mkF m 32 #[.val (.ref a1), .val (.ref a2), .val (.int p3), .val (.int (1 : Int32)), .val (.int p5), .val (.int (p3 + x1)), .val (.long (((p5.toInt64) &&& z1) <<< (y1 &&& 0x3f).toInt64)), .second] [(.int (p3 + x1)), (.ref a2)]))
  refine Go.st (fun _ => XS.aloadN X5.here hx rfl (hb hby d5_32) rfl rfl) ?_
  show Go p e below _ (T5.setTop (mkF m 33 #[.val (.ref a1), .val (.ref a2), .val (.int p3), .val (.int (1 : Int32)), .val (.int p5), .val (.int (p3 + x1)), .val (.long (((p5.toInt64) &&& z1) <<< (y1 &&& 0x3f).toInt64)), .second] [(.ref a2), (.int (p3 + x1)), (.ref a2)]))
  refine Go.st (fun _ => XS.iload X5.here hx rfl (hb hby d5_33) rfl) ?_
  show Go p e below _ (T5.setTop (mkF m 35 #[.val (.ref a1), .val (.ref a2), .val (.int p3), .val (.int (1 : Int32)), .val (.int p5), .val (.int (p3 + x1)), .val (.long (((p5.toInt64) &&& z1) <<< (y1 &&& 0x3f).toInt64)), .second] [(.int (p3 + x1)), (.ref a2), (.int (p3 + x1)), (.ref a2)]))
  obtain ⟨cl7, Ar7, hin7, hat7, -⟩ := LAr_in KA (j := (p3 + x1)) hj0 hj1
  refine Go.st (fun _ => X5.laload hx (j := (p3 + x1)) (v := (.long (f ((p3 + x1)).toNatClampNeg))) (by rw [e5]; exact Ar7.1) (State.isArrayOf_alike hZ.alike Ar7.2.1) Ar7.2.2 hin7 hat7 (g := (mkF m 35 #[.val (.ref a1), .val (.ref a2), .val (.int p3), .val (.int (1 : Int32)), .val (.int p5), .val (.int (p3 + x1)), .val (.long (((p5.toInt64) &&& z1) <<< (y1 &&& 0x3f).toInt64)), .second] [(.int (p3 + x1)), (.ref a2), (.int (p3 + x1)), (.ref a2)])) rfl rfl (hb hby d5_35) _) ?_
  show Go p e below _ (T5.setTop (mkF m 36 #[.val (.ref a1), .val (.ref a2), .val (.int p3), .val (.int (1 : Int32)), .val (.int p5), .val (.int (p3 + x1)), .val (.long (((p5.toInt64) &&& z1) <<< (y1 &&& 0x3f).toInt64)), .second] [(.long (f ((p3 + x1)).toNatClampNeg)), (.int (p3 + x1)), (.ref a2)]))
  refine Go.st (fun _ => XS.aloadN X5.here hx rfl (hb hby d5_36) rfl rfl) ?_
  show Go p e below _ (T5.setTop (mkF m 37 #[.val (.ref a1), .val (.ref a2), .val (.int p3), .val (.int (1 : Int32)), .val (.int p5), .val (.int (p3 + x1)), .val (.long (((p5.toInt64) &&& z1) <<< (y1 &&& 0x3f).toInt64)), .second] [(.ref a1), (.long (f ((p3 + x1)).toNatClampNeg)), (.int (p3 + x1)), (.ref a2)]))
  obtain ⟨T8, X8, e8, st8⟩ := getF X5 hx hZ hown (host := "") (Or.inl (hw _ (List.mem_of_getElem? (i := 28) rfl))) Via.refl e5 Fm (g := (mkF m 37 #[.val (.ref a1), .val (.ref a2), .val (.int p3), .val (.int (1 : Int32)), .val (.int p5), .val (.int (p3 + x1)), .val (.long (((p5.toInt64) &&& z1) <<< (y1 &&& 0x3f).toInt64)), .second] [(.ref a1), (.long (f ((p3 + x1)).toNatClampNeg)), (.int (p3 + x1)), (.ref a2)])) rfl rfl (hb hby d5_37)
  refine Go.st st8 ?_
  show Go p e below _ (T8.setTop (mkF m 40 #[.val (.ref a1), .val (.ref a2), .val (.int p3), .val (.int (1 : Int32)), .val (.int p5), .val (.int (p3 + x1)), .val (.long (((p5.toInt64) &&& z1) <<< (y1 &&& 0x3f).toInt64)), .second] [(.ref am), (.long (f ((p3 + x1)).toNatClampNeg)), (.int (p3 + x1)), (.ref a2)]))
  refine Go.st (fun _ => XS.iloadN X8.here hx rfl (hb hby d5_40) rfl) ?_
  show Go p e below _ (T8.setTop (mkF m 41 #[.val (.ref a1), .val (.ref a2), .val (.int p3), .val (.int (1 : Int32)), .val (.int p5), .val (.int (p3 + x1)), .val (.long (((p5.toInt64) &&& z1) <<< (y1 &&& 0x3f).toInt64)), .second] [(.int (1 : Int32)), (.ref am), (.long (f ((p3 + x1)).toNatClampNeg)), (.int (p3 + x1)), (.ref a2)]))
  obtain ⟨cl9, Ar9, qk9, Sz9, Nn9, Ha9, Ga9⟩ := id Vm
  have hin9 : ¬ ((1 : Int32) < 0 ∨ cl9.slots.size ≤ ((1 : Int32) : Int32).toNatClampNeg) := inb_of Sz9 ⟨by decide, by decide⟩
  refine Go.st (fun _ => X8.laload hx (j := (1 : Int32)) (v := (.long z1)) (by rw [e8]; exact Ar9.1) (State.isArrayOf_alike hZ.alike Ar9.2.1) Ar9.2.2 hin9 (Has.at Ha9 hin9 rfl) (g := (mkF m 41 #[.val (.ref a1), .val (.ref a2), .val (.int p3), .val (.int (1 : Int32)), .val (.int p5), .val (.int (p3 + x1)), .val (.long (((p5.toInt64) &&& z1) <<< (y1 &&& 0x3f).toInt64)), .second] [(.int (1 : Int32)), (.ref am), (.long (f ((p3 + x1)).toNatClampNeg)), (.int (p3 + x1)), (.ref a2)])) rfl rfl (hb hby d5_41) _) ?_
  show Go p e below _ (T8.setTop (mkF m 42 #[.val (.ref a1), .val (.ref a2), .val (.int p3), .val (.int (1 : Int32)), .val (.int p5), .val (.int (p3 + x1)), .val (.long (((p5.toInt64) &&& z1) <<< (y1 &&& 0x3f).toInt64)), .second] [(.long z1), (.long (f ((p3 + x1)).toNatClampNeg)), (.int (p3 + x1)), (.ref a2)]))
  refine Go.st (fun _ => XS.aloadN X8.here hx rfl (hb hby d5_42) rfl rfl) ?_
  show Go p e below _ (T8.setTop (mkF m 43 #[.val (.ref a1), .val (.ref a2), .val (.int p3), .val (.int (1 : Int32)), .val (.int p5), .val (.int (p3 + x1)), .val (.long (((p5.toInt64) &&& z1) <<< (y1 &&& 0x3f).toInt64)), .second] [(.ref a1), (.long z1), (.long (f ((p3 + x1)).toNatClampNeg)), (.int (p3 + x1)), (.ref a2)]))
  obtain ⟨T10, X10, e10, st10⟩ := getF X8 hx hZ hown (host := "") (Or.inl (hw _ (List.mem_of_getElem? (i := 26) rfl))) Via.refl e8 Fsh (g := (mkF m 43 #[.val (.ref a1), .val (.ref a2), .val (.int p3), .val (.int (1 : Int32)), .val (.int p5), .val (.int (p3 + x1)), .val (.long (((p5.toInt64) &&& z1) <<< (y1 &&& 0x3f).toInt64)), .second] [(.ref a1), (.long z1), (.long (f ((p3 + x1)).toNatClampNeg)), (.int (p3 + x1)), (.ref a2)])) rfl rfl (hb hby d5_43)
  refine Go.st st10 ?_
  show Go p e below _ (T10.setTop (mkF m 46 #[.val (.ref a1), .val (.ref a2), .val (.int p3), .val (.int (1 : Int32)), .val (.int p5), .val (.int (p3 + x1)), .val (.long (((p5.toInt64) &&& z1) <<< (y1 &&& 0x3f).toInt64)), .second] [(.ref as), (.long z1), (.long (f ((p3 + x1)).toNatClampNeg)), (.int (p3 + x1)), (.ref a2)]))
  refine Go.st (fun _ => XS.iloadN X10.here hx rfl (hb hby d5_46) rfl) ?_
  show Go p e below _ (T10.setTop (mkF m 47 #[.val (.ref a1), .val (.ref a2), .val (.int p3), .val (.int (1 : Int32)), .val (.int p5), .val (.int (p3 + x1)), .val (.long (((p5.toInt64) &&& z1) <<< (y1 &&& 0x3f).toInt64)), .second] [(.int (1 : Int32)), (.ref as), (.long z1), (.long (f ((p3 + x1)).toNatClampNeg)), (.int (p3 + x1)), (.ref a2)]))
  obtain ⟨cl11, Ar11, qk11, Sz11, Nn11, Ha11, Ga11⟩ := id Vs
  have hin11 : ¬ ((1 : Int32) < 0 ∨ cl11.slots.size ≤ ((1 : Int32) : Int32).toNatClampNeg) := inb_of Sz11 ⟨by decide, by decide⟩
  refine Go.st (fun _ => X10.iaload hx (j := (1 : Int32)) (v := (.int y1)) (by rw [e10]; exact Ar11.1) (State.isArrayOf_alike hZ.alike Ar11.2.1) Ar11.2.2 hin11 (Has.at Ha11 hin11 rfl) (g := (mkF m 47 #[.val (.ref a1), .val (.ref a2), .val (.int p3), .val (.int (1 : Int32)), .val (.int p5), .val (.int (p3 + x1)), .val (.long (((p5.toInt64) &&& z1) <<< (y1 &&& 0x3f).toInt64)), .second] [(.int (1 : Int32)), (.ref as), (.long z1), (.long (f ((p3 + x1)).toNatClampNeg)), (.int (p3 + x1)), (.ref a2)])) rfl rfl (hb hby d5_47) _) ?_
  show Go p e below _ (T10.setTop (mkF m 48 #[.val (.ref a1), .val (.ref a2), .val (.int p3), .val (.int (1 : Int32)), .val (.int p5), .val (.int (p3 + x1)), .val (.long (((p5.toInt64) &&& z1) <<< (y1 &&& 0x3f).toInt64)), .second] [(.int y1), (.long z1), (.long (f ((p3 + x1)).toNatClampNeg)), (.int (p3 + x1)), (.ref a2)]))
  refine Go.st (fun _ => XS.lshl X10.here hx rfl (hb hby d5_48) rfl) ?_
  show Go p e below _ (T10.setTop (mkF m 49 #[.val (.ref a1), .val (.ref a2), .val (.int p3), .val (.int (1 : Int32)), .val (.int p5), .val (.int (p3 + x1)), .val (.long (((p5.toInt64) &&& z1) <<< (y1 &&& 0x3f).toInt64)), .second] [(.long (z1 <<< (y1 &&& 0x3f).toInt64)), (.long (f ((p3 + x1)).toNatClampNeg)), (.int (p3 + x1)), (.ref a2)]))
  refine Go.st (fun _ => X10.ldc2Long hx hown (mvT hZ (hw _ (List.mem_of_getElem? (i := 47) rfl))) (g := (mkF m 49 #[.val (.ref a1), .val (.ref a2), .val (.int p3), .val (.int (1 : Int32)), .val (.int p5), .val (.int (p3 + x1)), .val (.long (((p5.toInt64) &&& z1) <<< (y1 &&& 0x3f).toInt64)), .second] [(.long (z1 <<< (y1 &&& 0x3f).toInt64)), (.long (f ((p3 + x1)).toNatClampNeg)), (.int (p3 + x1)), (.ref a2)])) rfl (hb hby d5_49) _) ?_
  show Go p e below _ (T10.setTop (mkF m 52 #[.val (.ref a1), .val (.ref a2), .val (.int p3), .val (.int (1 : Int32)), .val (.int p5), .val (.int (p3 + x1)), .val (.long (((p5.toInt64) &&& z1) <<< (y1 &&& 0x3f).toInt64)), .second] [(.long (-1 : Int64)), (.long (z1 <<< (y1 &&& 0x3f).toInt64)), (.long (f ((p3 + x1)).toNatClampNeg)), (.int (p3 + x1)), (.ref a2)]))
  refine Go.st (fun _ => XS.lxor X10.here hx rfl (hb hby d5_52) rfl) ?_
  show Go p e below _ (T10.setTop (mkF m 53 #[.val (.ref a1), .val (.ref a2), .val (.int p3), .val (.int (1 : Int32)), .val (.int p5), .val (.int (p3 + x1)), .val (.long (((p5.toInt64) &&& z1) <<< (y1 &&& 0x3f).toInt64)), .second] [(.long ((z1 <<< (y1 &&& 0x3f).toInt64) ^^^ (-1 : Int64))), (.long (f ((p3 + x1)).toNatClampNeg)), (.int (p3 + x1)), (.ref a2)]))
  refine Go.st (fun _ => XS.land X10.here hx rfl (hb hby d5_53) rfl) ?_
  show Go p e below _ (T10.setTop (mkF m 54 #[.val (.ref a1), .val (.ref a2), .val (.int p3), .val (.int (1 : Int32)), .val (.int p5), .val (.int (p3 + x1)), .val (.long (((p5.toInt64) &&& z1) <<< (y1 &&& 0x3f).toInt64)), .second] [(.long ((f ((p3 + x1)).toNatClampNeg) &&& ((z1 <<< (y1 &&& 0x3f).toInt64) ^^^ (-1 : Int64)))), (.int (p3 + x1)), (.ref a2)]))
  refine Go.st (fun _ => XS.lload X10.here hx rfl (hb hby d5_54) rfl) ?_
  show Go p e below _ (T10.setTop (mkF m 56 #[.val (.ref a1), .val (.ref a2), .val (.int p3), .val (.int (1 : Int32)), .val (.int p5), .val (.int (p3 + x1)), .val (.long (((p5.toInt64) &&& z1) <<< (y1 &&& 0x3f).toInt64)), .second] [(.long (((p5.toInt64) &&& z1) <<< (y1 &&& 0x3f).toInt64)), (.long ((f ((p3 + x1)).toNatClampNeg) &&& ((z1 <<< (y1 &&& 0x3f).toInt64) ^^^ (-1 : Int64)))), (.int (p3 + x1)), (.ref a2)]))
  refine Go.st (fun _ => XS.lor X10.here hx rfl (hb hby d5_56) rfl) ?_
  show Go p e below _ (T10.setTop (mkF m 57 #[.val (.ref a1), .val (.ref a2), .val (.int p3), .val (.int (1 : Int32)), .val (.int p5), .val (.int (p3 + x1)), .val (.long (((p5.toInt64) &&& z1) <<< (y1 &&& 0x3f).toInt64)), .second] [(.long (((f ((p3 + x1)).toNatClampNeg) &&& ((z1 <<< (y1 &&& 0x3f).toInt64) ^^^ (-1 : Int64))) ||| (((p5.toInt64) &&& z1) <<< (y1 &&& 0x3f).toInt64))), (.int (p3 + x1)), (.ref a2)]))
  obtain ⟨cl12, Ar12, hin12, hat12, Sz12, Nn12, Ha12⟩ := LAr_in KA (j := (p3 + x1)) hj0 hj1
  obtain ⟨T12, h12, X12, e12, W12, st12⟩ := stJ X10 hx hZ e10 Ar12 (j := (p3 + x1)) hin12 (g := (mkF m 57 #[.val (.ref a1), .val (.ref a2), .val (.int p3), .val (.int (1 : Int32)), .val (.int p5), .val (.int (p3 + x1)), .val (.long (((p5.toInt64) &&& z1) <<< (y1 &&& 0x3f).toInt64)), .second] [(.long (((f ((p3 + x1)).toNatClampNeg) &&& ((z1 <<< (y1 &&& 0x3f).toInt64) ^^^ (-1 : Int64))) ||| (((p5.toInt64) &&& z1) <<< (y1 &&& 0x3f).toInt64))), (.int (p3 + x1)), (.ref a2)])) rfl rfl (hb hby d5_57)
  refine Go.st st12 ?_
  have O13 : Old Z n0 h12 := O0.wr W12 g2
  have K14 : Keep h0 h12 [a2] := (Keep.refl h0 [a2]).wr W12 (Or.inl (List.mem_of_getElem? (i := 0) rfl))
  have VL15 : LAr Z h12 a2 n (fun k => if k = ((p3 + x1)).toNatClampNeg then (((f ((p3 + x1)).toNatClampNeg) &&& ((z1 <<< (y1 &&& 0x3f).toInt64) ^^^ (-1 : Int64))) ||| (((p5.toInt64) &&& z1) <<< (y1 &&& 0x3f).toInt64)) else f k) := LAr_set Ar12 Sz12 Nn12 Ha12 W12
  have N12 := Fr.snoc X12 N0 g2
  show Go p e below _ (T12.setTop (mkF m 58 #[.val (.ref a1), .val (.ref a2), .val (.int p3), .val (.int (1 : Int32)), .val (.int p5), .val (.int (p3 + x1)), .val (.long (((p5.toInt64) &&& z1) <<< (y1 &&& 0x3f).toInt64)), .second] []))
  exact goRetV X12 hx hlk hret e12 (hb hby d5_58) (by decide) (by decide) ⟨rfl, N12, K14, VL15⟩
set_option maxRecDepth 65536 in
set_option maxHeartbeats 40000000 in
theorem rmS2 (l : Launch) (Z : State) (a0 : Array Value) (hw : ∀ d ∈ tables_1, d.before a0 Z = true) (ws : List Jvm.Cond) (a1 a2 aw as am : Addr) (kw ks km : ClassId) (x0 x1 x2 y0 y1 y2 : Int32) (z0 z1 z2 : Int64) (n : Nat) (f : Nat → Int64) (p3 p5 : Int32) (h0 : Heap) (n0 : Nat) (O0 : Old Z n0 h0) (Fw : Fld Z h0 a1 "com/example/gieres/gieres/model/TupleTable" "word" "[I" (.ref aw)) (Vw : Arv Z h0 aw kw .int (3 : Int32) [(.int x0), (.int x1), (.int x2)] (.int (0 : Int32))) (Fsh : Fld Z h0 a1 "com/example/gieres/gieres/model/TupleTable" "shift" "[I" (.ref as)) (Vs : Arv Z h0 as ks .int (3 : Int32) [(.int y0), (.int y1), (.int y2)] (.int (0 : Int32))) (Fm : Fld Z h0 a1 "com/example/gieres/gieres/model/TupleTable" "mask" "[J" (.ref am)) (Vm : Arv Z h0 am km .long (3 : Int32) [(.long z0), (.long z1), (.long z2)] (.long (0 : Int64))) (KA : LAr Z h0 a2 n f) (g2 : n0 ≤ a2) (hj0 : 0 ≤ (p3 + x2).toInt) (hj1 : (p3 + x2).toInt < n) :
    Ctr l (⟨"com/example/gieres/gieres/model/TupleTable", "setState", "([JIII)V"⟩ : MethodName) prog_137_method_6_code 8 none ws ({ frames := 0, cells := 0, slots := 0, locals := 0 } : Room) #[(.ref a1), (.ref a2), (.int p3), (.int (2 : Int32)), (.int p5)] Z h0 (fun v h L => v = none ∧ Fr n0 L ∧ Keep h0 h [a2] ∧ LAr Z h a2 n (fun k => if k = (p3 + x2).toNatClampNeg then own_set (f (p3 + x2).toNatClampNeg) z2 y2 p5 else f k)) := by
  have ef : ∀ m : MethodId, entryFrame m #[(.ref a1), (.ref a2), (.int p3), (.int (2 : Int32)), (.int p5)] 8 = mkF m 0 #[.val (.ref a1), .val (.ref a2), .val (.int p3), .val (.int (2 : Int32)), .val (.int p5), .unset, .unset, .unset] [] := fun m => by first | (simp [entryFrame, mkF, argsToLocals, Value.category]; done) | rfl
  refine Ctr.of (plainFor_of_name pn_5) ?_
  intro p e s m below meth c s₁ hx hZ hby hml hown0 hnm hret hlk X0 e0
  have hown : s.vm.findClass "com/example/gieres/gieres/model/TupleTable" = some m.cls := hown0
  have N0 := Fr.nil n0
  refine Go.st (fun t k => castTop (ef m) k) ?_
  show Go p e below _ (s₁.setTop (mkF m 0 #[.val (.ref a1), .val (.ref a2), .val (.int p3), .val (.int (2 : Int32)), .val (.int p5), .unset, .unset, .unset] []))
  refine Go.st (fun _ => XS.iloadN X0.here hx rfl (hb hby d5_0) rfl) ?_
  show Go p e below _ (s₁.setTop (mkF m 1 #[.val (.ref a1), .val (.ref a2), .val (.int p3), .val (.int (2 : Int32)), .val (.int p5), .unset, .unset, .unset] [(.int p3)]))
  refine Go.st (fun _ => XS.aloadN X0.here hx rfl (hb hby d5_1) rfl rfl) ?_
  show Go p e below _ (s₁.setTop (mkF m 2 #[.val (.ref a1), .val (.ref a2), .val (.int p3), .val (.int (2 : Int32)), .val (.int p5), .unset, .unset, .unset] [(.ref a1), (.int p3)]))
  obtain ⟨T1, X1, e1, st1⟩ := getF X0 hx hZ hown (host := "") (Or.inl (hw _ (List.mem_of_getElem? (i := 24) rfl))) Via.refl e0 Fw (g := (mkF m 2 #[.val (.ref a1), .val (.ref a2), .val (.int p3), .val (.int (2 : Int32)), .val (.int p5), .unset, .unset, .unset] [(.ref a1), (.int p3)])) rfl rfl (hb hby d5_2)
  refine Go.st st1 ?_
  show Go p e below _ (T1.setTop (mkF m 5 #[.val (.ref a1), .val (.ref a2), .val (.int p3), .val (.int (2 : Int32)), .val (.int p5), .unset, .unset, .unset] [(.ref aw), (.int p3)]))
  refine Go.st (fun _ => XS.iloadN X1.here hx rfl (hb hby d5_5) rfl) ?_
  show Go p e below _ (T1.setTop (mkF m 6 #[.val (.ref a1), .val (.ref a2), .val (.int p3), .val (.int (2 : Int32)), .val (.int p5), .unset, .unset, .unset] [(.int (2 : Int32)), (.ref aw), (.int p3)]))
  obtain ⟨cl2, Ar2, qk2, Sz2, Nn2, Ha2, Ga2⟩ := id Vw
  have hin2 : ¬ ((2 : Int32) < 0 ∨ cl2.slots.size ≤ ((2 : Int32) : Int32).toNatClampNeg) := inb_of Sz2 ⟨by decide, by decide⟩
  refine Go.st (fun _ => X1.iaload hx (j := (2 : Int32)) (v := (.int x2)) (by rw [e1]; exact Ar2.1) (State.isArrayOf_alike hZ.alike Ar2.2.1) Ar2.2.2 hin2 (Has.at Ha2 hin2 rfl) (g := (mkF m 6 #[.val (.ref a1), .val (.ref a2), .val (.int p3), .val (.int (2 : Int32)), .val (.int p5), .unset, .unset, .unset] [(.int (2 : Int32)), (.ref aw), (.int p3)])) rfl rfl (hb hby d5_6) _) ?_
  show Go p e below _ (T1.setTop (mkF m 7 #[.val (.ref a1), .val (.ref a2), .val (.int p3), .val (.int (2 : Int32)), .val (.int p5), .unset, .unset, .unset] [(.int x2), (.int p3)]))
  refine Go.st (fun _ => XS.iadd X1.here hx rfl (hb hby d5_7) rfl) ?_
  show Go p e below _ (T1.setTop (mkF m 8 #[.val (.ref a1), .val (.ref a2), .val (.int p3), .val (.int (2 : Int32)), .val (.int p5), .unset, .unset, .unset] [(.int (p3 + x2))]))
  refine Go.st (fun _ => XS.istore X1.here hx rfl (hb hby d5_8) rfl (l' := #[.val (.ref a1), .val (.ref a2), .val (.int p3), .val (.int (2 : Int32)), .val (.int p5), .val (.int (p3 + x2)), .unset, .unset]) rfl) ?_
  show Go p e below _ (T1.setTop (mkF m 10 #[.val (.ref a1), .val (.ref a2), .val (.int p3), .val (.int (2 : Int32)), .val (.int p5), .val (.int (p3 + x2)), .unset, .unset] []))
  refine Go.st (fun _ => XS.iload X1.here hx rfl (hb hby d5_10) rfl) ?_
  show Go p e below _ (T1.setTop (mkF m 12 #[.val (.ref a1), .val (.ref a2), .val (.int p3), .val (.int (2 : Int32)), .val (.int p5), .val (.int (p3 + x2)), .unset, .unset] [(.int p5)]))
  refine Go.st (fun _ => XS.i2l X1.here hx rfl (hb hby d5_12) rfl) ?_
  show Go p e below _ (T1.setTop (mkF m 13 #[.val (.ref a1), .val (.ref a2), .val (.int p3), .val (.int (2 : Int32)), .val (.int p5), .val (.int (p3 + x2)), .unset, .unset] [(.long (p5.toInt64))]))
  refine Go.st (fun _ => XS.aloadN X1.here hx rfl (hb hby d5_13) rfl rfl) ?_
  show Go p e below _ (T1.setTop (mkF m 14 #[.val (.ref a1), .val (.ref a2), .val (.int p3), .val (.int (2 : Int32)), .val (.int p5), .val (.int (p3 + x2)), .unset, .unset] [(.ref a1), (.long (p5.toInt64))]))
  obtain ⟨T3, X3, e3, st3⟩ := getF X1 hx hZ hown (host := "") (Or.inl (hw _ (List.mem_of_getElem? (i := 28) rfl))) Via.refl e1 Fm (g := (mkF m 14 #[.val (.ref a1), .val (.ref a2), .val (.int p3), .val (.int (2 : Int32)), .val (.int p5), .val (.int (p3 + x2)), .unset, .unset] [(.ref a1), (.long (p5.toInt64))])) rfl rfl (hb hby d5_14)
  refine Go.st st3 ?_
  show Go p e below _ (T3.setTop (mkF m 17 #[.val (.ref a1), .val (.ref a2), .val (.int p3), .val (.int (2 : Int32)), .val (.int p5), .val (.int (p3 + x2)), .unset, .unset] [(.ref am), (.long (p5.toInt64))]))
  refine Go.st (fun _ => XS.iloadN X3.here hx rfl (hb hby d5_17) rfl) ?_
  show Go p e below _ (T3.setTop (mkF m 18 #[.val (.ref a1), .val (.ref a2), .val (.int p3), .val (.int (2 : Int32)), .val (.int p5), .val (.int (p3 + x2)), .unset, .unset] [(.int (2 : Int32)), (.ref am), (.long (p5.toInt64))]))
  obtain ⟨cl4, Ar4, qk4, Sz4, Nn4, Ha4, Ga4⟩ := id Vm
  have hin4 : ¬ ((2 : Int32) < 0 ∨ cl4.slots.size ≤ ((2 : Int32) : Int32).toNatClampNeg) := inb_of Sz4 ⟨by decide, by decide⟩
  refine Go.st (fun _ => X3.laload hx (j := (2 : Int32)) (v := (.long z2)) (by rw [e3]; exact Ar4.1) (State.isArrayOf_alike hZ.alike Ar4.2.1) Ar4.2.2 hin4 (Has.at Ha4 hin4 rfl) (g := (mkF m 18 #[.val (.ref a1), .val (.ref a2), .val (.int p3), .val (.int (2 : Int32)), .val (.int p5), .val (.int (p3 + x2)), .unset, .unset] [(.int (2 : Int32)), (.ref am), (.long (p5.toInt64))])) rfl rfl (hb hby d5_18) _) ?_
  show Go p e below _ (T3.setTop (mkF m 19 #[.val (.ref a1), .val (.ref a2), .val (.int p3), .val (.int (2 : Int32)), .val (.int p5), .val (.int (p3 + x2)), .unset, .unset] [(.long z2), (.long (p5.toInt64))]))
  refine Go.st (fun _ => XS.land X3.here hx rfl (hb hby d5_19) rfl) ?_
  show Go p e below _ (T3.setTop (mkF m 20 #[.val (.ref a1), .val (.ref a2), .val (.int p3), .val (.int (2 : Int32)), .val (.int p5), .val (.int (p3 + x2)), .unset, .unset] [(.long ((p5.toInt64) &&& z2))]))
  refine Go.st (fun _ => XS.aloadN X3.here hx rfl (hb hby d5_20) rfl rfl) ?_
  show Go p e below _ (T3.setTop (mkF m 21 #[.val (.ref a1), .val (.ref a2), .val (.int p3), .val (.int (2 : Int32)), .val (.int p5), .val (.int (p3 + x2)), .unset, .unset] [(.ref a1), (.long ((p5.toInt64) &&& z2))]))
  obtain ⟨T5, X5, e5, st5⟩ := getF X3 hx hZ hown (host := "") (Or.inl (hw _ (List.mem_of_getElem? (i := 26) rfl))) Via.refl e3 Fsh (g := (mkF m 21 #[.val (.ref a1), .val (.ref a2), .val (.int p3), .val (.int (2 : Int32)), .val (.int p5), .val (.int (p3 + x2)), .unset, .unset] [(.ref a1), (.long ((p5.toInt64) &&& z2))])) rfl rfl (hb hby d5_21)
  refine Go.st st5 ?_
  show Go p e below _ (T5.setTop (mkF m 24 #[.val (.ref a1), .val (.ref a2), .val (.int p3), .val (.int (2 : Int32)), .val (.int p5), .val (.int (p3 + x2)), .unset, .unset] [(.ref as), (.long ((p5.toInt64) &&& z2))]))
  refine Go.st (fun _ => XS.iloadN X5.here hx rfl (hb hby d5_24) rfl) ?_
  show Go p e below _ (T5.setTop (mkF m 25 #[.val (.ref a1), .val (.ref a2), .val (.int p3), .val (.int (2 : Int32)), .val (.int p5), .val (.int (p3 + x2)), .unset, .unset] [(.int (2 : Int32)), (.ref as), (.long ((p5.toInt64) &&& z2))]))
  obtain ⟨cl6, Ar6, qk6, Sz6, Nn6, Ha6, Ga6⟩ := id Vs
  have hin6 : ¬ ((2 : Int32) < 0 ∨ cl6.slots.size ≤ ((2 : Int32) : Int32).toNatClampNeg) := inb_of Sz6 ⟨by decide, by decide⟩
  refine Go.st (fun _ => X5.iaload hx (j := (2 : Int32)) (v := (.int y2)) (by rw [e5]; exact Ar6.1) (State.isArrayOf_alike hZ.alike Ar6.2.1) Ar6.2.2 hin6 (Has.at Ha6 hin6 rfl) (g := (mkF m 25 #[.val (.ref a1), .val (.ref a2), .val (.int p3), .val (.int (2 : Int32)), .val (.int p5), .val (.int (p3 + x2)), .unset, .unset] [(.int (2 : Int32)), (.ref as), (.long ((p5.toInt64) &&& z2))])) rfl rfl (hb hby d5_25) _) ?_
  show Go p e below _ (T5.setTop (mkF m 26 #[.val (.ref a1), .val (.ref a2), .val (.int p3), .val (.int (2 : Int32)), .val (.int p5), .val (.int (p3 + x2)), .unset, .unset] [(.int y2), (.long ((p5.toInt64) &&& z2))]))
  refine Go.st (fun _ => XS.lshl X5.here hx rfl (hb hby d5_26) rfl) ?_
  show Go p e below _ (T5.setTop (mkF m 27 #[.val (.ref a1), .val (.ref a2), .val (.int p3), .val (.int (2 : Int32)), .val (.int p5), .val (.int (p3 + x2)), .unset, .unset] [(.long (((p5.toInt64) &&& z2) <<< (y2 &&& 0x3f).toInt64))]))
  refine Go.st (fun _ => XS.lstore X5.here hx rfl (hb hby d5_27) rfl (l' := #[.val (.ref a1), .val (.ref a2), .val (.int p3), .val (.int (2 : Int32)), .val (.int p5), .val (.int (p3 + x2)), .val (.long (((p5.toInt64) &&& z2) <<< (y2 &&& 0x3f).toInt64)), .second]) rfl) ?_
  show Go p e below _ (T5.setTop (mkF m 29 #[.val (.ref a1), .val (.ref a2), .val (.int p3), .val (.int (2 : Int32)), .val (.int p5), .val (.int (p3 + x2)), .val (.long (((p5.toInt64) &&& z2) <<< (y2 &&& 0x3f).toInt64)), .second] []))
  refine Go.st (fun _ => XS.aloadN X5.here hx rfl (hb hby d5_29) rfl rfl) ?_
  show Go p e below _ (T5.setTop (mkF m 30 #[.val (.ref a1), .val (.ref a2), .val (.int p3), .val (.int (2 : Int32)), .val (.int p5), .val (.int (p3 + x2)), .val (.long (((p5.toInt64) &&& z2) <<< (y2 &&& 0x3f).toInt64)), .second] [(.ref a2)]))
  refine Go.st (fun _ => XS.iload X5.here hx rfl (hb hby d5_30) rfl) ?_
  show Go p e below _ (T5.setTop (mkF m 32 #[.val (.ref a1), .val (.ref a2), .val (.int p3), .val (.int (2 : Int32)), .val (.int p5), .val (.int (p3 + x2)), .val (.long (((p5.toInt64) &&& z2) <<< (y2 &&& 0x3f).toInt64)), .second] [(.int (p3 + x2)), (.ref a2)]))
  refine Go.st (fun _ => XS.aloadN X5.here hx rfl (hb hby d5_32) rfl rfl) ?_
  show Go p e below _ (T5.setTop (mkF m 33 #[.val (.ref a1), .val (.ref a2), .val (.int p3), .val (.int (2 : Int32)), .val (.int p5), .val (.int (p3 + x2)), .val (.long (((p5.toInt64) &&& z2) <<< (y2 &&& 0x3f).toInt64)), .second] [(.ref a2), (.int (p3 + x2)), (.ref a2)]))
  refine Go.st (fun _ => XS.iload X5.here hx rfl (hb hby d5_33) rfl) ?_
  show Go p e below _ (T5.setTop (mkF m 35 #[.val (.ref a1), .val (.ref a2), .val (.int p3), .val (.int (2 : Int32)), .val (.int p5), .val (.int (p3 + x2)), .val (.long (((p5.toInt64) &&& z2) <<< (y2 &&& 0x3f).toInt64)), .second] [(.int (p3 + x2)), (.ref a2), (.int (p3 + x2)), (.ref a2)]))
  obtain ⟨cl7, Ar7, hin7, hat7, -⟩ := LAr_in KA (j := (p3 + x2)) hj0 hj1
  refine Go.st (fun _ => X5.laload hx (j := (p3 + x2)) (v := (.long (f ((p3 + x2)).toNatClampNeg))) (by rw [e5]; exact Ar7.1) (State.isArrayOf_alike hZ.alike Ar7.2.1) Ar7.2.2 hin7 hat7 (g := (mkF m 35 #[.val (.ref a1), .val (.ref a2), .val (.int p3), .val (.int (2 : Int32)), .val (.int p5), .val (.int (p3 + x2)), .val (.long (((p5.toInt64) &&& z2) <<< (y2 &&& 0x3f).toInt64)), .second] [(.int (p3 + x2)), (.ref a2), (.int (p3 + x2)), (.ref a2)])) rfl rfl (hb hby d5_35) _) ?_
  show Go p e below _ (T5.setTop (mkF m 36 #[.val (.ref a1), .val (.ref a2), .val (.int p3), .val (.int (2 : Int32)), .val (.int p5), .val (.int (p3 + x2)), .val (.long (((p5.toInt64) &&& z2) <<< (y2 &&& 0x3f).toInt64)), .second] [(.long (f ((p3 + x2)).toNatClampNeg)), (.int (p3 + x2)), (.ref a2)]))
  refine Go.st (fun _ => XS.aloadN X5.here hx rfl (hb hby d5_36) rfl rfl) ?_
  show Go p e below _ (T5.setTop (mkF m 37 #[.val (.ref a1), .val (.ref a2), .val (.int p3), .val (.int (2 : Int32)), .val (.int p5), .val (.int (p3 + x2)), .val (.long (((p5.toInt64) &&& z2) <<< (y2 &&& 0x3f).toInt64)), .second] [(.ref a1), (.long (f ((p3 + x2)).toNatClampNeg)), (.int (p3 + x2)), (.ref a2)]))
  obtain ⟨T8, X8, e8, st8⟩ := getF X5 hx hZ hown (host := "") (Or.inl (hw _ (List.mem_of_getElem? (i := 28) rfl))) Via.refl e5 Fm (g := (mkF m 37 #[.val (.ref a1), .val (.ref a2), .val (.int p3), .val (.int (2 : Int32)), .val (.int p5), .val (.int (p3 + x2)), .val (.long (((p5.toInt64) &&& z2) <<< (y2 &&& 0x3f).toInt64)), .second] [(.ref a1), (.long (f ((p3 + x2)).toNatClampNeg)), (.int (p3 + x2)), (.ref a2)])) rfl rfl (hb hby d5_37)
  refine Go.st st8 ?_
  show Go p e below _ (T8.setTop (mkF m 40 #[.val (.ref a1), .val (.ref a2), .val (.int p3), .val (.int (2 : Int32)), .val (.int p5), .val (.int (p3 + x2)), .val (.long (((p5.toInt64) &&& z2) <<< (y2 &&& 0x3f).toInt64)), .second] [(.ref am), (.long (f ((p3 + x2)).toNatClampNeg)), (.int (p3 + x2)), (.ref a2)]))
  refine Go.st (fun _ => XS.iloadN X8.here hx rfl (hb hby d5_40) rfl) ?_
  show Go p e below _ (T8.setTop (mkF m 41 #[.val (.ref a1), .val (.ref a2), .val (.int p3), .val (.int (2 : Int32)), .val (.int p5), .val (.int (p3 + x2)), .val (.long (((p5.toInt64) &&& z2) <<< (y2 &&& 0x3f).toInt64)), .second] [(.int (2 : Int32)), (.ref am), (.long (f ((p3 + x2)).toNatClampNeg)), (.int (p3 + x2)), (.ref a2)]))
  obtain ⟨cl9, Ar9, qk9, Sz9, Nn9, Ha9, Ga9⟩ := id Vm
  have hin9 : ¬ ((2 : Int32) < 0 ∨ cl9.slots.size ≤ ((2 : Int32) : Int32).toNatClampNeg) := inb_of Sz9 ⟨by decide, by decide⟩
  refine Go.st (fun _ => X8.laload hx (j := (2 : Int32)) (v := (.long z2)) (by rw [e8]; exact Ar9.1) (State.isArrayOf_alike hZ.alike Ar9.2.1) Ar9.2.2 hin9 (Has.at Ha9 hin9 rfl) (g := (mkF m 41 #[.val (.ref a1), .val (.ref a2), .val (.int p3), .val (.int (2 : Int32)), .val (.int p5), .val (.int (p3 + x2)), .val (.long (((p5.toInt64) &&& z2) <<< (y2 &&& 0x3f).toInt64)), .second] [(.int (2 : Int32)), (.ref am), (.long (f ((p3 + x2)).toNatClampNeg)), (.int (p3 + x2)), (.ref a2)])) rfl rfl (hb hby d5_41) _) ?_
  show Go p e below _ (T8.setTop (mkF m 42 #[.val (.ref a1), .val (.ref a2), .val (.int p3), .val (.int (2 : Int32)), .val (.int p5), .val (.int (p3 + x2)), .val (.long (((p5.toInt64) &&& z2) <<< (y2 &&& 0x3f).toInt64)), .second] [(.long z2), (.long (f ((p3 + x2)).toNatClampNeg)), (.int (p3 + x2)), (.ref a2)]))
  refine Go.st (fun _ => XS.aloadN X8.here hx rfl (hb hby d5_42) rfl rfl) ?_
  show Go p e below _ (T8.setTop (mkF m 43 #[.val (.ref a1), .val (.ref a2), .val (.int p3), .val (.int (2 : Int32)), .val (.int p5), .val (.int (p3 + x2)), .val (.long (((p5.toInt64) &&& z2) <<< (y2 &&& 0x3f).toInt64)), .second] [(.ref a1), (.long z2), (.long (f ((p3 + x2)).toNatClampNeg)), (.int (p3 + x2)), (.ref a2)]))
  obtain ⟨T10, X10, e10, st10⟩ := getF X8 hx hZ hown (host := "") (Or.inl (hw _ (List.mem_of_getElem? (i := 26) rfl))) Via.refl e8 Fsh (g := (mkF m 43 #[.val (.ref a1), .val (.ref a2), .val (.int p3), .val (.int (2 : Int32)), .val (.int p5), .val (.int (p3 + x2)), .val (.long (((p5.toInt64) &&& z2) <<< (y2 &&& 0x3f).toInt64)), .second] [(.ref a1), (.long z2), (.long (f ((p3 + x2)).toNatClampNeg)), (.int (p3 + x2)), (.ref a2)])) rfl rfl (hb hby d5_43)
  refine Go.st st10 ?_
  show Go p e below _ (T10.setTop (mkF m 46 #[.val (.ref a1), .val (.ref a2), .val (.int p3), .val (.int (2 : Int32)), .val (.int p5), .val (.int (p3 + x2)), .val (.long (((p5.toInt64) &&& z2) <<< (y2 &&& 0x3f).toInt64)), .second] [(.ref as), (.long z2), (.long (f ((p3 + x2)).toNatClampNeg)), (.int (p3 + x2)), (.ref a2)]))
  refine Go.st (fun _ => XS.iloadN X10.here hx rfl (hb hby d5_46) rfl) ?_
  show Go p e below _ (T10.setTop (mkF m 47 #[.val (.ref a1), .val (.ref a2), .val (.int p3), .val (.int (2 : Int32)), .val (.int p5), .val (.int (p3 + x2)), .val (.long (((p5.toInt64) &&& z2) <<< (y2 &&& 0x3f).toInt64)), .second] [(.int (2 : Int32)), (.ref as), (.long z2), (.long (f ((p3 + x2)).toNatClampNeg)), (.int (p3 + x2)), (.ref a2)]))
  obtain ⟨cl11, Ar11, qk11, Sz11, Nn11, Ha11, Ga11⟩ := id Vs
  have hin11 : ¬ ((2 : Int32) < 0 ∨ cl11.slots.size ≤ ((2 : Int32) : Int32).toNatClampNeg) := inb_of Sz11 ⟨by decide, by decide⟩
  refine Go.st (fun _ => X10.iaload hx (j := (2 : Int32)) (v := (.int y2)) (by rw [e10]; exact Ar11.1) (State.isArrayOf_alike hZ.alike Ar11.2.1) Ar11.2.2 hin11 (Has.at Ha11 hin11 rfl) (g := (mkF m 47 #[.val (.ref a1), .val (.ref a2), .val (.int p3), .val (.int (2 : Int32)), .val (.int p5), .val (.int (p3 + x2)), .val (.long (((p5.toInt64) &&& z2) <<< (y2 &&& 0x3f).toInt64)), .second] [(.int (2 : Int32)), (.ref as), (.long z2), (.long (f ((p3 + x2)).toNatClampNeg)), (.int (p3 + x2)), (.ref a2)])) rfl rfl (hb hby d5_47) _) ?_
  show Go p e below _ (T10.setTop (mkF m 48 #[.val (.ref a1), .val (.ref a2), .val (.int p3), .val (.int (2 : Int32)), .val (.int p5), .val (.int (p3 + x2)), .val (.long (((p5.toInt64) &&& z2) <<< (y2 &&& 0x3f).toInt64)), .second] [(.int y2), (.long z2), (.long (f ((p3 + x2)).toNatClampNeg)), (.int (p3 + x2)), (.ref a2)]))
  refine Go.st (fun _ => XS.lshl X10.here hx rfl (hb hby d5_48) rfl) ?_
  show Go p e below _ (T10.setTop (mkF m 49 #[.val (.ref a1), .val (.ref a2), .val (.int p3), .val (.int (2 : Int32)), .val (.int p5), .val (.int (p3 + x2)), .val (.long (((p5.toInt64) &&& z2) <<< (y2 &&& 0x3f).toInt64)), .second] [(.long (z2 <<< (y2 &&& 0x3f).toInt64)), (.long (f ((p3 + x2)).toNatClampNeg)), (.int (p3 + x2)), (.ref a2)]))
  refine Go.st (fun _ => X10.ldc2Long hx hown (mvT hZ (hw _ (List.mem_of_getElem? (i := 47) rfl))) (g := (mkF m 49 #[.val (.ref a1), .val (.ref a2), .val (.int p3), .val (.int (2 : Int32)), .val (.int p5), .val (.int (p3 + x2)), .val (.long (((p5.toInt64) &&& z2) <<< (y2 &&& 0x3f).toInt64)), .second] [(.long (z2 <<< (y2 &&& 0x3f).toInt64)), (.long (f ((p3 + x2)).toNatClampNeg)), (.int (p3 + x2)), (.ref a2)])) rfl (hb hby d5_49) _) ?_
  show Go p e below _ (T10.setTop (mkF m 52 #[.val (.ref a1), .val (.ref a2), .val (.int p3), .val (.int (2 : Int32)), .val (.int p5), .val (.int (p3 + x2)), .val (.long (((p5.toInt64) &&& z2) <<< (y2 &&& 0x3f).toInt64)), .second] [(.long (-1 : Int64)), (.long (z2 <<< (y2 &&& 0x3f).toInt64)), (.long (f ((p3 + x2)).toNatClampNeg)), (.int (p3 + x2)), (.ref a2)]))
  refine Go.st (fun _ => XS.lxor X10.here hx rfl (hb hby d5_52) rfl) ?_
  show Go p e below _ (T10.setTop (mkF m 53 #[.val (.ref a1), .val (.ref a2), .val (.int p3), .val (.int (2 : Int32)), .val (.int p5), .val (.int (p3 + x2)), .val (.long (((p5.toInt64) &&& z2) <<< (y2 &&& 0x3f).toInt64)), .second] [(.long ((z2 <<< (y2 &&& 0x3f).toInt64) ^^^ (-1 : Int64))), (.long (f ((p3 + x2)).toNatClampNeg)), (.int (p3 + x2)), (.ref a2)]))
  refine Go.st (fun _ => XS.land X10.here hx rfl (hb hby d5_53) rfl) ?_
  show Go p e below _ (T10.setTop (mkF m 54 #[.val (.ref a1), .val (.ref a2), .val (.int p3), .val (.int (2 : Int32)), .val (.int p5), .val (.int (p3 + x2)), .val (.long (((p5.toInt64) &&& z2) <<< (y2 &&& 0x3f).toInt64)), .second] [(.long ((f ((p3 + x2)).toNatClampNeg) &&& ((z2 <<< (y2 &&& 0x3f).toInt64) ^^^ (-1 : Int64)))), (.int (p3 + x2)), (.ref a2)]))
  refine Go.st (fun _ => XS.lload X10.here hx rfl (hb hby d5_54) rfl) ?_
  show Go p e below _ (T10.setTop (mkF m 56 #[.val (.ref a1), .val (.ref a2), .val (.int p3), .val (.int (2 : Int32)), .val (.int p5), .val (.int (p3 + x2)), .val (.long (((p5.toInt64) &&& z2) <<< (y2 &&& 0x3f).toInt64)), .second] [(.long (((p5.toInt64) &&& z2) <<< (y2 &&& 0x3f).toInt64)), (.long ((f ((p3 + x2)).toNatClampNeg) &&& ((z2 <<< (y2 &&& 0x3f).toInt64) ^^^ (-1 : Int64)))), (.int (p3 + x2)), (.ref a2)]))
  refine Go.st (fun _ => XS.lor X10.here hx rfl (hb hby d5_56) rfl) ?_
  show Go p e below _ (T10.setTop (mkF m 57 #[.val (.ref a1), .val (.ref a2), .val (.int p3), .val (.int (2 : Int32)), .val (.int p5), .val (.int (p3 + x2)), .val (.long (((p5.toInt64) &&& z2) <<< (y2 &&& 0x3f).toInt64)), .second] [(.long (((f ((p3 + x2)).toNatClampNeg) &&& ((z2 <<< (y2 &&& 0x3f).toInt64) ^^^ (-1 : Int64))) ||| (((p5.toInt64) &&& z2) <<< (y2 &&& 0x3f).toInt64))), (.int (p3 + x2)), (.ref a2)]))
  obtain ⟨cl12, Ar12, hin12, hat12, Sz12, Nn12, Ha12⟩ := LAr_in KA (j := (p3 + x2)) hj0 hj1
  obtain ⟨T12, h12, X12, e12, W12, st12⟩ := stJ X10 hx hZ e10 Ar12 (j := (p3 + x2)) hin12 (g := (mkF m 57 #[.val (.ref a1), .val (.ref a2), .val (.int p3), .val (.int (2 : Int32)), .val (.int p5), .val (.int (p3 + x2)), .val (.long (((p5.toInt64) &&& z2) <<< (y2 &&& 0x3f).toInt64)), .second] [(.long (((f ((p3 + x2)).toNatClampNeg) &&& ((z2 <<< (y2 &&& 0x3f).toInt64) ^^^ (-1 : Int64))) ||| (((p5.toInt64) &&& z2) <<< (y2 &&& 0x3f).toInt64))), (.int (p3 + x2)), (.ref a2)])) rfl rfl (hb hby d5_57)
  refine Go.st st12 ?_
  have O13 : Old Z n0 h12 := O0.wr W12 g2
  have K14 : Keep h0 h12 [a2] := (Keep.refl h0 [a2]).wr W12 (Or.inl (List.mem_of_getElem? (i := 0) rfl))
  have VL15 : LAr Z h12 a2 n (fun k => if k = ((p3 + x2)).toNatClampNeg then (((f ((p3 + x2)).toNatClampNeg) &&& ((z2 <<< (y2 &&& 0x3f).toInt64) ^^^ (-1 : Int64))) ||| (((p5.toInt64) &&& z2) <<< (y2 &&& 0x3f).toInt64)) else f k) := LAr_set Ar12 Sz12 Nn12 Ha12 W12
  have N12 := Fr.snoc X12 N0 g2
  show Go p e below _ (T12.setTop (mkF m 58 #[.val (.ref a1), .val (.ref a2), .val (.int p3), .val (.int (2 : Int32)), .val (.int p5), .val (.int (p3 + x2)), .val (.long (((p5.toInt64) &&& z2) <<< (y2 &&& 0x3f).toInt64)), .second] []))
  exact goRetV X12 hx hlk hret e12 (hb hby d5_58) (by decide) (by decide) ⟨rfl, N12, K14, VL15⟩
theorem d6_0 : decode prog_137_method_8_code 0 = .ok (.aload_n 0, 1) := by decide +kernel
theorem d6_1 : decode prog_137_method_8_code 1 = .ok (.getfield 44, 3) := by decide +kernel
theorem d6_4 : decode prog_137_method_8_code 4 = .ok (.iconst 1, 1) := by decide +kernel
theorem d6_5 : decode prog_137_method_8_code 5 = .ok (.if_icmp .ne 50, 3) := by decide +kernel
theorem d6_8 : decode prog_137_method_8_code 8 = .ok (.aload_n 1, 1) := by decide +kernel
theorem d6_9 : decode prog_137_method_8_code 9 = .ok (.iload_n 2, 1) := by decide +kernel
theorem d6_10 : decode prog_137_method_8_code 10 = .ok (.laload, 1) := by decide +kernel
theorem d6_11 : decode prog_137_method_8_code 11 = .ok (.lstore 4, 2) := by decide +kernel
theorem d6_13 : decode prog_137_method_8_code 13 = .ok (.iconst 0, 1) := by decide +kernel
theorem d6_14 : decode prog_137_method_8_code 14 = .ok (.istore 6, 2) := by decide +kernel
theorem d6_16 : decode prog_137_method_8_code 16 = .ok (.iload 6, 2) := by decide +kernel
theorem d6_18 : decode prog_137_method_8_code 18 = .ok (.aload_n 3, 1) := by decide +kernel
theorem d6_19 : decode prog_137_method_8_code 19 = .ok (.arraylength, 1) := by decide +kernel
theorem d6_20 : decode prog_137_method_8_code 20 = .ok (.if_icmp .ge 32, 3) := by decide +kernel
theorem d6_23 : decode prog_137_method_8_code 23 = .ok (.aload_n 3, 1) := by decide +kernel
theorem d6_24 : decode prog_137_method_8_code 24 = .ok (.iload 6, 2) := by decide +kernel
theorem d6_26 : decode prog_137_method_8_code 26 = .ok (.lload 4, 2) := by decide +kernel
theorem d6_28 : decode prog_137_method_8_code 28 = .ok (.aload_n 0, 1) := by decide +kernel
theorem d6_29 : decode prog_137_method_8_code 29 = .ok (.getfield 32, 3) := by decide +kernel
theorem d6_32 : decode prog_137_method_8_code 32 = .ok (.iload 6, 2) := by decide +kernel
theorem d6_34 : decode prog_137_method_8_code 34 = .ok (.iaload, 1) := by decide +kernel
theorem d6_35 : decode prog_137_method_8_code 35 = .ok (.lushr, 1) := by decide +kernel
theorem d6_36 : decode prog_137_method_8_code 36 = .ok (.aload_n 0, 1) := by decide +kernel
theorem d6_37 : decode prog_137_method_8_code 37 = .ok (.getfield 35, 3) := by decide +kernel
theorem d6_40 : decode prog_137_method_8_code 40 = .ok (.iload 6, 2) := by decide +kernel
theorem d6_42 : decode prog_137_method_8_code 42 = .ok (.laload, 1) := by decide +kernel
theorem d6_43 : decode prog_137_method_8_code 43 = .ok (.land, 1) := by decide +kernel
theorem d6_44 : decode prog_137_method_8_code 44 = .ok (.l2i, 1) := by decide +kernel
theorem d6_45 : decode prog_137_method_8_code 45 = .ok (.iastore, 1) := by decide +kernel
theorem d6_46 : decode prog_137_method_8_code 46 = .ok (.iinc 6 1, 3) := by decide +kernel
theorem d6_49 : decode prog_137_method_8_code 49 = .ok (.goto (-33), 3) := by decide +kernel
theorem d6_52 : decode prog_137_method_8_code 52 = .ok (.goto 51, 3) := by decide +kernel
theorem d6_55 : decode prog_137_method_8_code 55 = .ok (.iconst 0, 1) := by decide +kernel
theorem d6_56 : decode prog_137_method_8_code 56 = .ok (.istore 4, 2) := by decide +kernel
theorem d6_58 : decode prog_137_method_8_code 58 = .ok (.iload 4, 2) := by decide +kernel
theorem d6_60 : decode prog_137_method_8_code 60 = .ok (.aload_n 3, 1) := by decide +kernel
theorem d6_61 : decode prog_137_method_8_code 61 = .ok (.arraylength, 1) := by decide +kernel
theorem d6_62 : decode prog_137_method_8_code 62 = .ok (.if_icmp .ge 41, 3) := by decide +kernel
theorem d6_65 : decode prog_137_method_8_code 65 = .ok (.aload_n 3, 1) := by decide +kernel
theorem d6_66 : decode prog_137_method_8_code 66 = .ok (.iload 4, 2) := by decide +kernel
theorem d6_68 : decode prog_137_method_8_code 68 = .ok (.aload_n 1, 1) := by decide +kernel
theorem d6_69 : decode prog_137_method_8_code 69 = .ok (.iload_n 2, 1) := by decide +kernel
theorem d6_70 : decode prog_137_method_8_code 70 = .ok (.aload_n 0, 1) := by decide +kernel
theorem d6_71 : decode prog_137_method_8_code 71 = .ok (.getfield 29, 3) := by decide +kernel
theorem d6_74 : decode prog_137_method_8_code 74 = .ok (.iload 4, 2) := by decide +kernel
theorem d6_76 : decode prog_137_method_8_code 76 = .ok (.iaload, 1) := by decide +kernel
theorem d6_77 : decode prog_137_method_8_code 77 = .ok (.iadd, 1) := by decide +kernel
theorem d6_78 : decode prog_137_method_8_code 78 = .ok (.laload, 1) := by decide +kernel
theorem d6_79 : decode prog_137_method_8_code 79 = .ok (.aload_n 0, 1) := by decide +kernel
theorem d6_80 : decode prog_137_method_8_code 80 = .ok (.getfield 32, 3) := by decide +kernel
theorem d6_83 : decode prog_137_method_8_code 83 = .ok (.iload 4, 2) := by decide +kernel
theorem d6_85 : decode prog_137_method_8_code 85 = .ok (.iaload, 1) := by decide +kernel
theorem d6_86 : decode prog_137_method_8_code 86 = .ok (.lushr, 1) := by decide +kernel
theorem d6_87 : decode prog_137_method_8_code 87 = .ok (.aload_n 0, 1) := by decide +kernel
theorem d6_88 : decode prog_137_method_8_code 88 = .ok (.getfield 35, 3) := by decide +kernel
theorem d6_91 : decode prog_137_method_8_code 91 = .ok (.iload 4, 2) := by decide +kernel
theorem d6_93 : decode prog_137_method_8_code 93 = .ok (.laload, 1) := by decide +kernel
theorem d6_94 : decode prog_137_method_8_code 94 = .ok (.land, 1) := by decide +kernel
theorem d6_95 : decode prog_137_method_8_code 95 = .ok (.l2i, 1) := by decide +kernel
theorem d6_96 : decode prog_137_method_8_code 96 = .ok (.iastore, 1) := by decide +kernel
theorem d6_97 : decode prog_137_method_8_code 97 = .ok (.iinc 4 1, 3) := by decide +kernel
theorem d6_100 : decode prog_137_method_8_code 100 = .ok (.goto (-42), 3) := by decide +kernel
theorem d6_103 : decode prog_137_method_8_code 103 = .ok (.return_, 1) := by decide +kernel
theorem pn_6 : plainName "com/example/gieres/gieres/model/TupleTable" = true := by first | (simp [plainName, overriddenIn]; done) | decide +kernel
set_option maxRecDepth 65536 in
set_option maxHeartbeats 40000000 in
theorem rmT0 (l : Launch) (Z : State) (a0 : Array Value) (hw : ∀ d ∈ tables_1, d.before a0 Z = true) (ws : List Jvm.Cond) (a1 a2 a3 aw as am : Addr) (kw ks km : ClassId) (x0 x1 x2 y0 y1 y2 : Int32) (z0 z1 z2 : Int64) (n : Nat) (f : Nat → Int64) (ki : ClassId) (p3 wd : Int32) (h0 : Heap) (n0 : Nat) (O0 : Old Z n0 h0) (Fw : Fld Z h0 a1 "com/example/gieres/gieres/model/TupleTable" "word" "[I" (.ref aw)) (Vw : Arv Z h0 aw kw .int (3 : Int32) [(.int x0), (.int x1), (.int x2)] (.int (0 : Int32))) (Fsh : Fld Z h0 a1 "com/example/gieres/gieres/model/TupleTable" "shift" "[I" (.ref as)) (Vs : Arv Z h0 as ks .int (3 : Int32) [(.int y0), (.int y1), (.int y2)] (.int (0 : Int32))) (Fm : Fld Z h0 a1 "com/example/gieres/gieres/model/TupleTable" "mask" "[J" (.ref am)) (Vm : Arv Z h0 am km .long (3 : Int32) [(.long z0), (.long z1), (.long z2)] (.long (0 : Int64))) (Fwd : Fld Z h0 a1 "com/example/gieres/gieres/model/TupleTable" "width" "I" (.int wd)) (KA : LAr Z h0 a2 n f) (VI : Arv Z h0 a3 ki .int (0 : Int32) [] (.int (0 : Int32))) (g3 : n0 ≤ a3) (ne_a1_a3 : a1 ≠ a3) (ne_a2_a3 : a2 ≠ a3) (ne_aw_a3 : aw ≠ a3) (ne_as_a3 : as ≠ a3) (ne_am_a3 : am ≠ a3) (hp0 : 0 ≤ p3.toInt) (hp1 : p3.toInt < n) (hj0_0 : 0 ≤ (p3 + x0).toInt) (hj0_1 : (p3 + x0).toInt < n) (hj1_0 : 0 ≤ (p3 + x1).toInt) (hj1_1 : (p3 + x1).toInt < n) (hj2_0 : 0 ≤ (p3 + x2).toInt) (hj2_1 : (p3 + x2).toInt < n) (hx1 : wd = 1 → x0 = 0 ∧ x1 = 0 ∧ x2 = 0) :
    Ctr l (⟨"com/example/gieres/gieres/model/TupleTable", "states", "([JI[I)V"⟩ : MethodName) prog_137_method_8_code 7 none ws ({ frames := 0, cells := 0, slots := 0, locals := 0 } : Room) #[(.ref a1), (.ref a2), (.int p3), (.ref a3)] Z h0 (fun v h L => v = none ∧ Fr n0 L ∧ Keep h0 h [a3] ∧ Arv Z h a3 ki .int (0 : Int32) [] (.int (0 : Int32))) := by
  have ef : ∀ m : MethodId, entryFrame m #[(.ref a1), (.ref a2), (.int p3), (.ref a3)] 7 = mkF m 0 #[.val (.ref a1), .val (.ref a2), .val (.int p3), .val (.ref a3), .unset, .unset, .unset] [] := fun m => by first | (simp [entryFrame, mkF, argsToLocals, Value.category]; done) | rfl
  refine Ctr.of (plainFor_of_name pn_6) ?_
  intro p e s m below meth c s₁ hx hZ hby hml hown0 hnm hret hlk X0 e0
  have hown : s.vm.findClass "com/example/gieres/gieres/model/TupleTable" = some m.cls := hown0
  have N0 := Fr.nil n0
  refine Go.st (fun t k => castTop (ef m) k) ?_
  show Go p e below _ (s₁.setTop (mkF m 0 #[.val (.ref a1), .val (.ref a2), .val (.int p3), .val (.ref a3), .unset, .unset, .unset] []))
  refine Go.st (fun _ => XS.aloadN X0.here hx rfl (hb hby d6_0) rfl rfl) ?_
  show Go p e below _ (s₁.setTop (mkF m 1 #[.val (.ref a1), .val (.ref a2), .val (.int p3), .val (.ref a3), .unset, .unset, .unset] [(.ref a1)]))
  obtain ⟨T1, X1, e1, st1⟩ := getF X0 hx hZ hown (host := "") (Or.inl (hw _ (List.mem_of_getElem? (i := 39) rfl))) Via.refl e0 Fwd (g := (mkF m 1 #[.val (.ref a1), .val (.ref a2), .val (.int p3), .val (.ref a3), .unset, .unset, .unset] [(.ref a1)])) rfl rfl (hb hby d6_1)
  refine Go.st st1 ?_
  show Go p e below _ (T1.setTop (mkF m 4 #[.val (.ref a1), .val (.ref a2), .val (.int p3), .val (.ref a3), .unset, .unset, .unset] [(.int wd)]))
  refine Go.st (fun _ => XS.iconst X1.here hx rfl (hb hby d6_4)) ?_
  show Go p e below _ (T1.setTop (mkF m 5 #[.val (.ref a1), .val (.ref a2), .val (.int p3), .val (.ref a3), .unset, .unset, .unset] [(.int (1 : Int32)), (.int wd)]))
  by_cases hc2 : wd = (1 : Int32)
  · refine Go.st (fun _ => XS.icmpNo X1.here hx rfl (hb hby d6_5) rfl (teq hc2).2) ?_
    show Go p e below _ (T1.setTop (mkF m 8 #[.val (.ref a1), .val (.ref a2), .val (.int p3), .val (.ref a3), .unset, .unset, .unset] []))
    refine Go.st (fun _ => XS.aloadN X1.here hx rfl (hb hby d6_8) rfl rfl) ?_
    show Go p e below _ (T1.setTop (mkF m 9 #[.val (.ref a1), .val (.ref a2), .val (.int p3), .val (.ref a3), .unset, .unset, .unset] [(.ref a2)]))
    refine Go.st (fun _ => XS.iloadN X1.here hx rfl (hb hby d6_9) rfl) ?_
    show Go p e below _ (T1.setTop (mkF m 10 #[.val (.ref a1), .val (.ref a2), .val (.int p3), .val (.ref a3), .unset, .unset, .unset] [(.int p3), (.ref a2)]))
    obtain ⟨cl3, Ar3, hin3, hat3, -⟩ := LAr_in KA (j := p3) hp0 hp1
    refine Go.st (fun _ => X1.laload hx (j := p3) (v := (.long (f (p3).toNatClampNeg))) (by rw [e1]; exact Ar3.1) (State.isArrayOf_alike hZ.alike Ar3.2.1) Ar3.2.2 hin3 hat3 (g := (mkF m 10 #[.val (.ref a1), .val (.ref a2), .val (.int p3), .val (.ref a3), .unset, .unset, .unset] [(.int p3), (.ref a2)])) rfl rfl (hb hby d6_10) _) ?_
    show Go p e below _ (T1.setTop (mkF m 11 #[.val (.ref a1), .val (.ref a2), .val (.int p3), .val (.ref a3), .unset, .unset, .unset] [(.long (f (p3).toNatClampNeg))]))
    refine Go.st (fun _ => XS.lstore X1.here hx rfl (hb hby d6_11) rfl (l' := #[.val (.ref a1), .val (.ref a2), .val (.int p3), .val (.ref a3), .val (.long (f (p3).toNatClampNeg)), .second, .unset]) rfl) ?_
    show Go p e below _ (T1.setTop (mkF m 13 #[.val (.ref a1), .val (.ref a2), .val (.int p3), .val (.ref a3), .val (.long (f (p3).toNatClampNeg)), .second, .unset] []))
    refine Go.st (fun _ => XS.iconst X1.here hx rfl (hb hby d6_13)) ?_
    show Go p e below _ (T1.setTop (mkF m 14 #[.val (.ref a1), .val (.ref a2), .val (.int p3), .val (.ref a3), .val (.long (f (p3).toNatClampNeg)), .second, .unset] [(.int (0 : Int32))]))
    refine Go.st (fun _ => XS.istore X1.here hx rfl (hb hby d6_14) rfl (l' := #[.val (.ref a1), .val (.ref a2), .val (.int p3), .val (.ref a3), .val (.long (f (p3).toNatClampNeg)), .second, .val (.int (0 : Int32))]) rfl) ?_
    show Go p e below _ (T1.setTop (mkF m 16 #[.val (.ref a1), .val (.ref a2), .val (.int p3), .val (.ref a3), .val (.long (f (p3).toNatClampNeg)), .second, .val (.int (0 : Int32))] []))
    refine Go.st (fun _ => XS.iload X1.here hx rfl (hb hby d6_16) rfl) ?_
    show Go p e below _ (T1.setTop (mkF m 18 #[.val (.ref a1), .val (.ref a2), .val (.int p3), .val (.ref a3), .val (.long (f (p3).toNatClampNeg)), .second, .val (.int (0 : Int32))] [(.int (0 : Int32))]))
    refine Go.st (fun _ => XS.aloadN X1.here hx rfl (hb hby d6_18) rfl rfl) ?_
    show Go p e below _ (T1.setTop (mkF m 19 #[.val (.ref a1), .val (.ref a2), .val (.int p3), .val (.ref a3), .val (.long (f (p3).toNatClampNeg)), .second, .val (.int (0 : Int32))] [(.ref a3), (.int (0 : Int32))]))
    obtain ⟨cl4, Ar4, qk4, Sz4, Nn4, Ha4, Ga4⟩ := id VI
    refine Go.st (fun _ => X1.arraylength hx (by rw [e1]; exact Ar4.1) (State.isArrayOf_alike hZ.alike Ar4.2.1) (g := (mkF m 19 #[.val (.ref a1), .val (.ref a2), .val (.int p3), .val (.ref a3), .val (.long (f (p3).toNatClampNeg)), .second, .val (.int (0 : Int32))] [(.ref a3), (.int (0 : Int32))])) rfl rfl (hb hby d6_19) _) ?_
    rw [len_of Sz4 Nn4]
    show Go p e below _ (T1.setTop (mkF m 20 #[.val (.ref a1), .val (.ref a2), .val (.int p3), .val (.ref a3), .val (.long (f (p3).toNatClampNeg)), .second, .val (.int (0 : Int32))] [(.int (0 : Int32)), (.int (0 : Int32))]))
    refine Go.st (fun _ => XS.icmpYes X1.here hx rfl (pc0 := 20) (pc' := 52) rfl (hb hby d6_20) rfl (flt (by decide : ¬ ((0 : Int32) < (0 : Int32)))).2.1 (by decide) (by decide)) ?_
    show Go p e below _ (T1.setTop (mkF m 52 #[.val (.ref a1), .val (.ref a2), .val (.int p3), .val (.ref a3), .val (.long (f (p3).toNatClampNeg)), .second, .val (.int (0 : Int32))] []))
    refine Go.st (fun _ => XS.goto X1.here hx rfl (pc0 := 52) (pc' := 103) rfl (hb hby d6_52) (by decide) (by decide)) ?_
    show Go p e below _ (T1.setTop (mkF m 103 #[.val (.ref a1), .val (.ref a2), .val (.int p3), .val (.ref a3), .val (.long (f (p3).toNatClampNeg)), .second, .val (.int (0 : Int32))] []))
    exact goRetV X1 hx hlk hret e1 (hb hby d6_103) (by decide) (by decide) ⟨rfl, N0, (Keep.refl h0 [a3]), VI⟩
  · refine Go.st (fun _ => XS.icmpYes X1.here hx rfl (pc0 := 5) (pc' := 55) rfl (hb hby d6_5) rfl (feq hc2).2 (by decide) (by decide)) ?_
    show Go p e below _ (T1.setTop (mkF m 55 #[.val (.ref a1), .val (.ref a2), .val (.int p3), .val (.ref a3), .unset, .unset, .unset] []))
    refine Go.st (fun _ => XS.iconst X1.here hx rfl (hb hby d6_55)) ?_
    show Go p e below _ (T1.setTop (mkF m 56 #[.val (.ref a1), .val (.ref a2), .val (.int p3), .val (.ref a3), .unset, .unset, .unset] [(.int (0 : Int32))]))
    refine Go.st (fun _ => XS.istore X1.here hx rfl (hb hby d6_56) rfl (l' := #[.val (.ref a1), .val (.ref a2), .val (.int p3), .val (.ref a3), .val (.int (0 : Int32)), .unset, .unset]) rfl) ?_
    show Go p e below _ (T1.setTop (mkF m 58 #[.val (.ref a1), .val (.ref a2), .val (.int p3), .val (.ref a3), .val (.int (0 : Int32)), .unset, .unset] []))
    refine Go.st (fun _ => XS.iload X1.here hx rfl (hb hby d6_58) rfl) ?_
    show Go p e below _ (T1.setTop (mkF m 60 #[.val (.ref a1), .val (.ref a2), .val (.int p3), .val (.ref a3), .val (.int (0 : Int32)), .unset, .unset] [(.int (0 : Int32))]))
    refine Go.st (fun _ => XS.aloadN X1.here hx rfl (hb hby d6_60) rfl rfl) ?_
    show Go p e below _ (T1.setTop (mkF m 61 #[.val (.ref a1), .val (.ref a2), .val (.int p3), .val (.ref a3), .val (.int (0 : Int32)), .unset, .unset] [(.ref a3), (.int (0 : Int32))]))
    obtain ⟨cl5, Ar5, qk5, Sz5, Nn5, Ha5, Ga5⟩ := id VI
    refine Go.st (fun _ => X1.arraylength hx (by rw [e1]; exact Ar5.1) (State.isArrayOf_alike hZ.alike Ar5.2.1) (g := (mkF m 61 #[.val (.ref a1), .val (.ref a2), .val (.int p3), .val (.ref a3), .val (.int (0 : Int32)), .unset, .unset] [(.ref a3), (.int (0 : Int32))])) rfl rfl (hb hby d6_61) _) ?_
    rw [len_of Sz5 Nn5]
    show Go p e below _ (T1.setTop (mkF m 62 #[.val (.ref a1), .val (.ref a2), .val (.int p3), .val (.ref a3), .val (.int (0 : Int32)), .unset, .unset] [(.int (0 : Int32)), (.int (0 : Int32))]))
    refine Go.st (fun _ => XS.icmpYes X1.here hx rfl (pc0 := 62) (pc' := 103) rfl (hb hby d6_62) rfl (flt (by decide : ¬ ((0 : Int32) < (0 : Int32)))).2.1 (by decide) (by decide)) ?_
    show Go p e below _ (T1.setTop (mkF m 103 #[.val (.ref a1), .val (.ref a2), .val (.int p3), .val (.ref a3), .val (.int (0 : Int32)), .unset, .unset] []))
    exact goRetV X1 hx hlk hret e1 (hb hby d6_103) (by decide) (by decide) ⟨rfl, N0, (Keep.refl h0 [a3]), VI⟩
set_option maxRecDepth 65536 in
set_option maxHeartbeats 40000000 in
theorem rmT1 (l : Launch) (Z : State) (a0 : Array Value) (hw : ∀ d ∈ tables_1, d.before a0 Z = true) (ws : List Jvm.Cond) (a1 a2 a3 aw as am : Addr) (kw ks km : ClassId) (x0 x1 x2 y0 y1 y2 : Int32) (z0 z1 z2 : Int64) (n : Nat) (f : Nat → Int64) (ki : ClassId) (p3 wd u0 : Int32) (h0 : Heap) (n0 : Nat) (O0 : Old Z n0 h0) (Fw : Fld Z h0 a1 "com/example/gieres/gieres/model/TupleTable" "word" "[I" (.ref aw)) (Vw : Arv Z h0 aw kw .int (3 : Int32) [(.int x0), (.int x1), (.int x2)] (.int (0 : Int32))) (Fsh : Fld Z h0 a1 "com/example/gieres/gieres/model/TupleTable" "shift" "[I" (.ref as)) (Vs : Arv Z h0 as ks .int (3 : Int32) [(.int y0), (.int y1), (.int y2)] (.int (0 : Int32))) (Fm : Fld Z h0 a1 "com/example/gieres/gieres/model/TupleTable" "mask" "[J" (.ref am)) (Vm : Arv Z h0 am km .long (3 : Int32) [(.long z0), (.long z1), (.long z2)] (.long (0 : Int64))) (Fwd : Fld Z h0 a1 "com/example/gieres/gieres/model/TupleTable" "width" "I" (.int wd)) (KA : LAr Z h0 a2 n f) (VI : Arv Z h0 a3 ki .int (1 : Int32) [(.int u0)] (.int (0 : Int32))) (g3 : n0 ≤ a3) (ne_a1_a3 : a1 ≠ a3) (ne_a2_a3 : a2 ≠ a3) (ne_aw_a3 : aw ≠ a3) (ne_as_a3 : as ≠ a3) (ne_am_a3 : am ≠ a3) (hp0 : 0 ≤ p3.toInt) (hp1 : p3.toInt < n) (hj0_0 : 0 ≤ (p3 + x0).toInt) (hj0_1 : (p3 + x0).toInt < n) (hj1_0 : 0 ≤ (p3 + x1).toInt) (hj1_1 : (p3 + x1).toInt < n) (hj2_0 : 0 ≤ (p3 + x2).toInt) (hj2_1 : (p3 + x2).toInt < n) (hx1 : wd = 1 → x0 = 0 ∧ x1 = 0 ∧ x2 = 0) :
    Ctr l (⟨"com/example/gieres/gieres/model/TupleTable", "states", "([JI[I)V"⟩ : MethodName) prog_137_method_8_code 7 none ws ({ frames := 0, cells := 0, slots := 0, locals := 0 } : Room) #[(.ref a1), (.ref a2), (.int p3), (.ref a3)] Z h0 (fun v h L => v = none ∧ Fr n0 L ∧ Keep h0 h [a3] ∧ Arv Z h a3 ki .int (1 : Int32) [(.int ((own_get (f (p3 + x0).toNatClampNeg) z0 y0).toInt32))] (.int (0 : Int32))) := by
  have ef : ∀ m : MethodId, entryFrame m #[(.ref a1), (.ref a2), (.int p3), (.ref a3)] 7 = mkF m 0 #[.val (.ref a1), .val (.ref a2), .val (.int p3), .val (.ref a3), .unset, .unset, .unset] [] := fun m => by first | (simp [entryFrame, mkF, argsToLocals, Value.category]; done) | rfl
  refine Ctr.of (plainFor_of_name pn_6) ?_
  intro p e s m below meth c s₁ hx hZ hby hml hown0 hnm hret hlk X0 e0
  have hown : s.vm.findClass "com/example/gieres/gieres/model/TupleTable" = some m.cls := hown0
  have N0 := Fr.nil n0
  refine Go.st (fun t k => castTop (ef m) k) ?_
  show Go p e below _ (s₁.setTop (mkF m 0 #[.val (.ref a1), .val (.ref a2), .val (.int p3), .val (.ref a3), .unset, .unset, .unset] []))
  refine Go.st (fun _ => XS.aloadN X0.here hx rfl (hb hby d6_0) rfl rfl) ?_
  show Go p e below _ (s₁.setTop (mkF m 1 #[.val (.ref a1), .val (.ref a2), .val (.int p3), .val (.ref a3), .unset, .unset, .unset] [(.ref a1)]))
  obtain ⟨T1, X1, e1, st1⟩ := getF X0 hx hZ hown (host := "") (Or.inl (hw _ (List.mem_of_getElem? (i := 39) rfl))) Via.refl e0 Fwd (g := (mkF m 1 #[.val (.ref a1), .val (.ref a2), .val (.int p3), .val (.ref a3), .unset, .unset, .unset] [(.ref a1)])) rfl rfl (hb hby d6_1)
  refine Go.st st1 ?_
  show Go p e below _ (T1.setTop (mkF m 4 #[.val (.ref a1), .val (.ref a2), .val (.int p3), .val (.ref a3), .unset, .unset, .unset] [(.int wd)]))
  refine Go.st (fun _ => XS.iconst X1.here hx rfl (hb hby d6_4)) ?_
  show Go p e below _ (T1.setTop (mkF m 5 #[.val (.ref a1), .val (.ref a2), .val (.int p3), .val (.ref a3), .unset, .unset, .unset] [(.int (1 : Int32)), (.int wd)]))
  by_cases hc2 : wd = (1 : Int32)
  · refine Go.st (fun _ => XS.icmpNo X1.here hx rfl (hb hby d6_5) rfl (teq hc2).2) ?_
    show Go p e below _ (T1.setTop (mkF m 8 #[.val (.ref a1), .val (.ref a2), .val (.int p3), .val (.ref a3), .unset, .unset, .unset] []))
    refine Go.st (fun _ => XS.aloadN X1.here hx rfl (hb hby d6_8) rfl rfl) ?_
    show Go p e below _ (T1.setTop (mkF m 9 #[.val (.ref a1), .val (.ref a2), .val (.int p3), .val (.ref a3), .unset, .unset, .unset] [(.ref a2)]))
    refine Go.st (fun _ => XS.iloadN X1.here hx rfl (hb hby d6_9) rfl) ?_
    show Go p e below _ (T1.setTop (mkF m 10 #[.val (.ref a1), .val (.ref a2), .val (.int p3), .val (.ref a3), .unset, .unset, .unset] [(.int p3), (.ref a2)]))
    obtain ⟨cl3, Ar3, hin3, hat3, -⟩ := LAr_in KA (j := p3) hp0 hp1
    refine Go.st (fun _ => X1.laload hx (j := p3) (v := (.long (f (p3).toNatClampNeg))) (by rw [e1]; exact Ar3.1) (State.isArrayOf_alike hZ.alike Ar3.2.1) Ar3.2.2 hin3 hat3 (g := (mkF m 10 #[.val (.ref a1), .val (.ref a2), .val (.int p3), .val (.ref a3), .unset, .unset, .unset] [(.int p3), (.ref a2)])) rfl rfl (hb hby d6_10) _) ?_
    show Go p e below _ (T1.setTop (mkF m 11 #[.val (.ref a1), .val (.ref a2), .val (.int p3), .val (.ref a3), .unset, .unset, .unset] [(.long (f (p3).toNatClampNeg))]))
    refine Go.st (fun _ => XS.lstore X1.here hx rfl (hb hby d6_11) rfl (l' := #[.val (.ref a1), .val (.ref a2), .val (.int p3), .val (.ref a3), .val (.long (f (p3).toNatClampNeg)), .second, .unset]) rfl) ?_
    show Go p e below _ (T1.setTop (mkF m 13 #[.val (.ref a1), .val (.ref a2), .val (.int p3), .val (.ref a3), .val (.long (f (p3).toNatClampNeg)), .second, .unset] []))
    refine Go.st (fun _ => XS.iconst X1.here hx rfl (hb hby d6_13)) ?_
    show Go p e below _ (T1.setTop (mkF m 14 #[.val (.ref a1), .val (.ref a2), .val (.int p3), .val (.ref a3), .val (.long (f (p3).toNatClampNeg)), .second, .unset] [(.int (0 : Int32))]))
    refine Go.st (fun _ => XS.istore X1.here hx rfl (hb hby d6_14) rfl (l' := #[.val (.ref a1), .val (.ref a2), .val (.int p3), .val (.ref a3), .val (.long (f (p3).toNatClampNeg)), .second, .val (.int (0 : Int32))]) rfl) ?_
    show Go p e below _ (T1.setTop (mkF m 16 #[.val (.ref a1), .val (.ref a2), .val (.int p3), .val (.ref a3), .val (.long (f (p3).toNatClampNeg)), .second, .val (.int (0 : Int32))] []))
    refine Go.st (fun _ => XS.iload X1.here hx rfl (hb hby d6_16) rfl) ?_
    show Go p e below _ (T1.setTop (mkF m 18 #[.val (.ref a1), .val (.ref a2), .val (.int p3), .val (.ref a3), .val (.long (f (p3).toNatClampNeg)), .second, .val (.int (0 : Int32))] [(.int (0 : Int32))]))
    refine Go.st (fun _ => XS.aloadN X1.here hx rfl (hb hby d6_18) rfl rfl) ?_
    show Go p e below _ (T1.setTop (mkF m 19 #[.val (.ref a1), .val (.ref a2), .val (.int p3), .val (.ref a3), .val (.long (f (p3).toNatClampNeg)), .second, .val (.int (0 : Int32))] [(.ref a3), (.int (0 : Int32))]))
    obtain ⟨cl4, Ar4, qk4, Sz4, Nn4, Ha4, Ga4⟩ := id VI
    refine Go.st (fun _ => X1.arraylength hx (by rw [e1]; exact Ar4.1) (State.isArrayOf_alike hZ.alike Ar4.2.1) (g := (mkF m 19 #[.val (.ref a1), .val (.ref a2), .val (.int p3), .val (.ref a3), .val (.long (f (p3).toNatClampNeg)), .second, .val (.int (0 : Int32))] [(.ref a3), (.int (0 : Int32))])) rfl rfl (hb hby d6_19) _) ?_
    rw [len_of Sz4 Nn4]
    show Go p e below _ (T1.setTop (mkF m 20 #[.val (.ref a1), .val (.ref a2), .val (.int p3), .val (.ref a3), .val (.long (f (p3).toNatClampNeg)), .second, .val (.int (0 : Int32))] [(.int (1 : Int32)), (.int (0 : Int32))]))
    refine Go.st (fun _ => XS.icmpNo X1.here hx rfl (hb hby d6_20) rfl (tlt (by decide : (0 : Int32) < (1 : Int32))).2.1) ?_
    show Go p e below _ (T1.setTop (mkF m 23 #[.val (.ref a1), .val (.ref a2), .val (.int p3), .val (.ref a3), .val (.long (f (p3).toNatClampNeg)), .second, .val (.int (0 : Int32))] []))
    refine Go.st (fun _ => XS.aloadN X1.here hx rfl (hb hby d6_23) rfl rfl) ?_
    show Go p e below _ (T1.setTop (mkF m 24 #[.val (.ref a1), .val (.ref a2), .val (.int p3), .val (.ref a3), .val (.long (f (p3).toNatClampNeg)), .second, .val (.int (0 : Int32))] [(.ref a3)]))
    refine Go.st (fun _ => XS.iload X1.here hx rfl (hb hby d6_24) rfl) ?_
    show Go p e below _ (T1.setTop (mkF m 26 #[.val (.ref a1), .val (.ref a2), .val (.int p3), .val (.ref a3), .val (.long (f (p3).toNatClampNeg)), .second, .val (.int (0 : Int32))] [(.int (0 : Int32)), (.ref a3)]))
    refine Go.st (fun _ => XS.lload X1.here hx rfl (hb hby d6_26) rfl) ?_
    show Go p e below _ (T1.setTop (mkF m 28 #[.val (.ref a1), .val (.ref a2), .val (.int p3), .val (.ref a3), .val (.long (f (p3).toNatClampNeg)), .second, .val (.int (0 : Int32))] [(.long (f (p3).toNatClampNeg)), (.int (0 : Int32)), (.ref a3)]))
    refine Go.st (fun _ => XS.aloadN X1.here hx rfl (hb hby d6_28) rfl rfl) ?_
    show Go p e below _ (T1.setTop (mkF m 29 #[.val (.ref a1), .val (.ref a2), .val (.int p3), .val (.ref a3), .val (.long (f (p3).toNatClampNeg)), .second, .val (.int (0 : Int32))] [(.ref a1), (.long (f (p3).toNatClampNeg)), (.int (0 : Int32)), (.ref a3)]))
    obtain ⟨T5, X5, e5, st5⟩ := getF X1 hx hZ hown (host := "") (Or.inl (hw _ (List.mem_of_getElem? (i := 26) rfl))) Via.refl e1 Fsh (g := (mkF m 29 #[.val (.ref a1), .val (.ref a2), .val (.int p3), .val (.ref a3), .val (.long (f (p3).toNatClampNeg)), .second, .val (.int (0 : Int32))] [(.ref a1), (.long (f (p3).toNatClampNeg)), (.int (0 : Int32)), (.ref a3)])) rfl rfl (hb hby d6_29)
    refine Go.st st5 ?_
    show Go p e below _ (T5.setTop (mkF m 32 #[.val (.ref a1), .val (.ref a2), .val (.int p3), .val (.ref a3), .val (.long (f (p3).toNatClampNeg)), .second, .val (.int (0 : Int32))] [(.ref as), (.long (f (p3).toNatClampNeg)), (.int (0 : Int32)), (.ref a3)]))
    refine Go.st (fun _ => XS.iload X5.here hx rfl (hb hby d6_32) rfl) ?_
    show Go p e below _ (T5.setTop (mkF m 34 #[.val (.ref a1), .val (.ref a2), .val (.int p3), .val (.ref a3), .val (.long (f (p3).toNatClampNeg)), .second, .val (.int (0 : Int32))] [(.int (0 : Int32)), (.ref as), (.long (f (p3).toNatClampNeg)), (.int (0 : Int32)), (.ref a3)]))
    obtain ⟨cl6, Ar6, qk6, Sz6, Nn6, Ha6, Ga6⟩ := id Vs
    have hin6 : ¬ ((0 : Int32) < 0 ∨ cl6.slots.size ≤ ((0 : Int32) : Int32).toNatClampNeg) := inb_of Sz6 ⟨by decide, by decide⟩
    refine Go.st (fun _ => X5.iaload hx (j := (0 : Int32)) (v := (.int y0)) (by rw [e5]; exact Ar6.1) (State.isArrayOf_alike hZ.alike Ar6.2.1) Ar6.2.2 hin6 (Has.at Ha6 hin6 rfl) (g := (mkF m 34 #[.val (.ref a1), .val (.ref a2), .val (.int p3), .val (.ref a3), .val (.long (f (p3).toNatClampNeg)), .second, .val (.int (0 : Int32))] [(.int (0 : Int32)), (.ref as), (.long (f (p3).toNatClampNeg)), (.int (0 : Int32)), (.ref a3)])) rfl rfl (hb hby d6_34) _) ?_
    show Go p e below _ (T5.setTop (mkF m 35 #[.val (.ref a1), .val (.ref a2), .val (.int p3), .val (.ref a3), .val (.long (f (p3).toNatClampNeg)), .second, .val (.int (0 : Int32))] [(.int y0), (.long (f (p3).toNatClampNeg)), (.int (0 : Int32)), (.ref a3)]))
    refine Go.st (fun _ => XS.lushr X5.here hx rfl (hb hby d6_35) rfl) ?_
    show Go p e below _ (T5.setTop (mkF m 36 #[.val (.ref a1), .val (.ref a2), .val (.int p3), .val (.ref a3), .val (.long (f (p3).toNatClampNeg)), .second, .val (.int (0 : Int32))] [(.long (((f (p3).toNatClampNeg).toUInt64 >>> (y0 &&& 0x3f).toInt64.toUInt64).toInt64)), (.int (0 : Int32)), (.ref a3)]))
    refine Go.st (fun _ => XS.aloadN X5.here hx rfl (hb hby d6_36) rfl rfl) ?_
    show Go p e below _ (T5.setTop (mkF m 37 #[.val (.ref a1), .val (.ref a2), .val (.int p3), .val (.ref a3), .val (.long (f (p3).toNatClampNeg)), .second, .val (.int (0 : Int32))] [(.ref a1), (.long (((f (p3).toNatClampNeg).toUInt64 >>> (y0 &&& 0x3f).toInt64.toUInt64).toInt64)), (.int (0 : Int32)), (.ref a3)]))
    obtain ⟨T7, X7, e7, st7⟩ := getF X5 hx hZ hown (host := "") (Or.inl (hw _ (List.mem_of_getElem? (i := 28) rfl))) Via.refl e5 Fm (g := (mkF m 37 #[.val (.ref a1), .val (.ref a2), .val (.int p3), .val (.ref a3), .val (.long (f (p3).toNatClampNeg)), .second, .val (.int (0 : Int32))] [(.ref a1), (.long (((f (p3).toNatClampNeg).toUInt64 >>> (y0 &&& 0x3f).toInt64.toUInt64).toInt64)), (.int (0 : Int32)), (.ref a3)])) rfl rfl (hb hby d6_37)
    refine Go.st st7 ?_
    show Go p e below _ (T7.setTop (mkF m 40 #[.val (.ref a1), .val (.ref a2), .val (.int p3), .val (.ref a3), .val (.long (f (p3).toNatClampNeg)), .second, .val (.int (0 : Int32))] [(.ref am), (.long (((f (p3).toNatClampNeg).toUInt64 >>> (y0 &&& 0x3f).toInt64.toUInt64).toInt64)), (.int (0 : Int32)), (.ref a3)]))
    refine Go.st (fun _ => XS.iload X7.here hx rfl (hb hby d6_40) rfl) ?_
    show Go p e below _ (T7.setTop (mkF m 42 #[.val (.ref a1), .val (.ref a2), .val (.int p3), .val (.ref a3), .val (.long (f (p3).toNatClampNeg)), .second, .val (.int (0 : Int32))] [(.int (0 : Int32)), (.ref am), (.long (((f (p3).toNatClampNeg).toUInt64 >>> (y0 &&& 0x3f).toInt64.toUInt64).toInt64)), (.int (0 : Int32)), (.ref a3)]))
    obtain ⟨cl8, Ar8, qk8, Sz8, Nn8, Ha8, Ga8⟩ := id Vm
    have hin8 : ¬ ((0 : Int32) < 0 ∨ cl8.slots.size ≤ ((0 : Int32) : Int32).toNatClampNeg) := inb_of Sz8 ⟨by decide, by decide⟩
    refine Go.st (fun _ => X7.laload hx (j := (0 : Int32)) (v := (.long z0)) (by rw [e7]; exact Ar8.1) (State.isArrayOf_alike hZ.alike Ar8.2.1) Ar8.2.2 hin8 (Has.at Ha8 hin8 rfl) (g := (mkF m 42 #[.val (.ref a1), .val (.ref a2), .val (.int p3), .val (.ref a3), .val (.long (f (p3).toNatClampNeg)), .second, .val (.int (0 : Int32))] [(.int (0 : Int32)), (.ref am), (.long (((f (p3).toNatClampNeg).toUInt64 >>> (y0 &&& 0x3f).toInt64.toUInt64).toInt64)), (.int (0 : Int32)), (.ref a3)])) rfl rfl (hb hby d6_42) _) ?_
    show Go p e below _ (T7.setTop (mkF m 43 #[.val (.ref a1), .val (.ref a2), .val (.int p3), .val (.ref a3), .val (.long (f (p3).toNatClampNeg)), .second, .val (.int (0 : Int32))] [(.long z0), (.long (((f (p3).toNatClampNeg).toUInt64 >>> (y0 &&& 0x3f).toInt64.toUInt64).toInt64)), (.int (0 : Int32)), (.ref a3)]))
    refine Go.st (fun _ => XS.land X7.here hx rfl (hb hby d6_43) rfl) ?_
    show Go p e below _ (T7.setTop (mkF m 44 #[.val (.ref a1), .val (.ref a2), .val (.int p3), .val (.ref a3), .val (.long (f (p3).toNatClampNeg)), .second, .val (.int (0 : Int32))] [(.long ((((f (p3).toNatClampNeg).toUInt64 >>> (y0 &&& 0x3f).toInt64.toUInt64).toInt64) &&& z0)), (.int (0 : Int32)), (.ref a3)]))
    refine Go.st (fun _ => XS.l2i X7.here hx rfl (hb hby d6_44) rfl) ?_
    show Go p e below _ (T7.setTop (mkF m 45 #[.val (.ref a1), .val (.ref a2), .val (.int p3), .val (.ref a3), .val (.long (f (p3).toNatClampNeg)), .second, .val (.int (0 : Int32))] [(.int (((((f (p3).toNatClampNeg).toUInt64 >>> (y0 &&& 0x3f).toInt64.toUInt64).toInt64) &&& z0).toInt32)), (.int (0 : Int32)), (.ref a3)]))
    obtain ⟨cl9, Ar9, qk9, Sz9, Nn9, Ha9, Ga9⟩ := id VI
    have hin9 : ¬ ((0 : Int32) < 0 ∨ cl9.slots.size ≤ ((0 : Int32) : Int32).toNatClampNeg) := inb_of Sz9 ⟨by decide, by decide⟩
    obtain ⟨T9, h9, X9, e9, W9, st9⟩ := stI X7 hx hZ e7 Ar9 (j := (0 : Int32)) hin9 (g := (mkF m 45 #[.val (.ref a1), .val (.ref a2), .val (.int p3), .val (.ref a3), .val (.long (f (p3).toNatClampNeg)), .second, .val (.int (0 : Int32))] [(.int (((((f (p3).toNatClampNeg).toUInt64 >>> (y0 &&& 0x3f).toInt64.toUInt64).toInt64) &&& z0).toInt32)), (.int (0 : Int32)), (.ref a3)])) rfl rfl (hb hby d6_45)
    refine Go.st st9 ?_
    have O10 : Old Z n0 h9 := O0.wr W9 g3
    have F11 : Fld Z h9 a1 "com/example/gieres/gieres/model/TupleTable" "word" "[I" (.ref aw) := Fw.other W9 (Or.inl ne_a1_a3)
    have V_12 : Arv Z h9 aw kw .int (3 : Int32) [(.int x0), (.int x1), (.int x2)] (.int (0 : Int32)) := Vw.other W9 ne_aw_a3
    have F13 : Fld Z h9 a1 "com/example/gieres/gieres/model/TupleTable" "shift" "[I" (.ref as) := Fsh.other W9 (Or.inl ne_a1_a3)
    have V_14 : Arv Z h9 as ks .int (3 : Int32) [(.int y0), (.int y1), (.int y2)] (.int (0 : Int32)) := Vs.other W9 ne_as_a3
    have F15 : Fld Z h9 a1 "com/example/gieres/gieres/model/TupleTable" "mask" "[J" (.ref am) := Fm.other W9 (Or.inl ne_a1_a3)
    have V_16 : Arv Z h9 am km .long (3 : Int32) [(.long z0), (.long z1), (.long z2)] (.long (0 : Int64)) := Vm.other W9 ne_am_a3
    have F17 : Fld Z h9 a1 "com/example/gieres/gieres/model/TupleTable" "width" "I" (.int wd) := Fwd.other W9 (Or.inl ne_a1_a3)
    have VL18 : LAr Z h9 a2 n f := LAr_other KA W9 ne_a2_a3
    have K19 : Keep h0 h9 [a3] := (Keep.refl h0 [a3]).wr W9 (Or.inl (List.mem_of_getElem? (i := 0) rfl))
    have V_20 : Arv Z h9 a3 ki .int (1 : Int32) [(.int (((((f (p3).toNatClampNeg).toUInt64 >>> (y0 &&& 0x3f).toInt64.toUInt64).toInt64) &&& z0).toInt32))] (.int (0 : Int32)) := Arv.set Ar9 qk9 Sz9 Nn9 Ha9 Ga9 rfl W9 0 rfl (Nat.le_of_ble_eq_true rfl)
    have N9 := Fr.snoc X9 N0 g3
    show Go p e below _ (T9.setTop (mkF m 46 #[.val (.ref a1), .val (.ref a2), .val (.int p3), .val (.ref a3), .val (.long (f (p3).toNatClampNeg)), .second, .val (.int (0 : Int32))] []))
    refine Go.st (fun _ => XS.iinc X9.here hx rfl (hb hby d6_46) rfl (l' := #[.val (.ref a1), .val (.ref a2), .val (.int p3), .val (.ref a3), .val (.long (f (p3).toNatClampNeg)), .second, .val (.int (1 : Int32))]) rfl) ?_
    show Go p e below _ (T9.setTop (mkF m 49 #[.val (.ref a1), .val (.ref a2), .val (.int p3), .val (.ref a3), .val (.long (f (p3).toNatClampNeg)), .second, .val (.int (1 : Int32))] []))
    refine Go.st (fun _ => XS.goto X9.here hx rfl (pc0 := 49) (pc' := 16) rfl (hb hby d6_49) (by decide) (by decide)) ?_
    show Go p e below _ (T9.setTop (mkF m 16 #[.val (.ref a1), .val (.ref a2), .val (.int p3), .val (.ref a3), .val (.long (f (p3).toNatClampNeg)), .second, .val (.int (1 : Int32))] []))
    refine Go.st (fun _ => XS.iload X9.here hx rfl (hb hby d6_16) rfl) ?_
    show Go p e below _ (T9.setTop (mkF m 18 #[.val (.ref a1), .val (.ref a2), .val (.int p3), .val (.ref a3), .val (.long (f (p3).toNatClampNeg)), .second, .val (.int (1 : Int32))] [(.int (1 : Int32))]))
    refine Go.st (fun _ => XS.aloadN X9.here hx rfl (hb hby d6_18) rfl rfl) ?_
    show Go p e below _ (T9.setTop (mkF m 19 #[.val (.ref a1), .val (.ref a2), .val (.int p3), .val (.ref a3), .val (.long (f (p3).toNatClampNeg)), .second, .val (.int (1 : Int32))] [(.ref a3), (.int (1 : Int32))]))
    obtain ⟨cl21, Ar21, qk21, Sz21, Nn21, Ha21, Ga21⟩ := id V_20
    refine Go.st (fun _ => X9.arraylength hx (by rw [e9]; exact Ar21.1) (State.isArrayOf_alike hZ.alike Ar21.2.1) (g := (mkF m 19 #[.val (.ref a1), .val (.ref a2), .val (.int p3), .val (.ref a3), .val (.long (f (p3).toNatClampNeg)), .second, .val (.int (1 : Int32))] [(.ref a3), (.int (1 : Int32))])) rfl rfl (hb hby d6_19) _) ?_
    rw [len_of Sz21 Nn21]
    show Go p e below _ (T9.setTop (mkF m 20 #[.val (.ref a1), .val (.ref a2), .val (.int p3), .val (.ref a3), .val (.long (f (p3).toNatClampNeg)), .second, .val (.int (1 : Int32))] [(.int (1 : Int32)), (.int (1 : Int32))]))
    refine Go.st (fun _ => XS.icmpYes X9.here hx rfl (pc0 := 20) (pc' := 52) rfl (hb hby d6_20) rfl (flt (by decide : ¬ ((1 : Int32) < (1 : Int32)))).2.1 (by decide) (by decide)) ?_
    show Go p e below _ (T9.setTop (mkF m 52 #[.val (.ref a1), .val (.ref a2), .val (.int p3), .val (.ref a3), .val (.long (f (p3).toNatClampNeg)), .second, .val (.int (1 : Int32))] []))
    refine Go.st (fun _ => XS.goto X9.here hx rfl (pc0 := 52) (pc' := 103) rfl (hb hby d6_52) (by decide) (by decide)) ?_
    show Go p e below _ (T9.setTop (mkF m 103 #[.val (.ref a1), .val (.ref a2), .val (.int p3), .val (.ref a3), .val (.long (f (p3).toNatClampNeg)), .second, .val (.int (1 : Int32))] []))
    obtain ⟨r0, r1, r2⟩ := hx1 hc2
    have VE : Arv Z h9 a3 ki .int (1 : Int32) [(.int ((own_get (f (p3 + x0).toNatClampNeg) z0 y0).toInt32))] (.int (0 : Int32)) := by simp only [r0, r1, r2, Int32.add_zero]; exact V_20
    exact goRetV X9 hx hlk hret e9 (hb hby d6_103) (by decide) (by decide) ⟨rfl, N9, K19, VE⟩
  · refine Go.st (fun _ => XS.icmpYes X1.here hx rfl (pc0 := 5) (pc' := 55) rfl (hb hby d6_5) rfl (feq hc2).2 (by decide) (by decide)) ?_
    show Go p e below _ (T1.setTop (mkF m 55 #[.val (.ref a1), .val (.ref a2), .val (.int p3), .val (.ref a3), .unset, .unset, .unset] []))
    refine Go.st (fun _ => XS.iconst X1.here hx rfl (hb hby d6_55)) ?_
    show Go p e below _ (T1.setTop (mkF m 56 #[.val (.ref a1), .val (.ref a2), .val (.int p3), .val (.ref a3), .unset, .unset, .unset] [(.int (0 : Int32))]))
    refine Go.st (fun _ => XS.istore X1.here hx rfl (hb hby d6_56) rfl (l' := #[.val (.ref a1), .val (.ref a2), .val (.int p3), .val (.ref a3), .val (.int (0 : Int32)), .unset, .unset]) rfl) ?_
    show Go p e below _ (T1.setTop (mkF m 58 #[.val (.ref a1), .val (.ref a2), .val (.int p3), .val (.ref a3), .val (.int (0 : Int32)), .unset, .unset] []))
    refine Go.st (fun _ => XS.iload X1.here hx rfl (hb hby d6_58) rfl) ?_
    show Go p e below _ (T1.setTop (mkF m 60 #[.val (.ref a1), .val (.ref a2), .val (.int p3), .val (.ref a3), .val (.int (0 : Int32)), .unset, .unset] [(.int (0 : Int32))]))
    refine Go.st (fun _ => XS.aloadN X1.here hx rfl (hb hby d6_60) rfl rfl) ?_
    show Go p e below _ (T1.setTop (mkF m 61 #[.val (.ref a1), .val (.ref a2), .val (.int p3), .val (.ref a3), .val (.int (0 : Int32)), .unset, .unset] [(.ref a3), (.int (0 : Int32))]))
    obtain ⟨cl22, Ar22, qk22, Sz22, Nn22, Ha22, Ga22⟩ := id VI
    refine Go.st (fun _ => X1.arraylength hx (by rw [e1]; exact Ar22.1) (State.isArrayOf_alike hZ.alike Ar22.2.1) (g := (mkF m 61 #[.val (.ref a1), .val (.ref a2), .val (.int p3), .val (.ref a3), .val (.int (0 : Int32)), .unset, .unset] [(.ref a3), (.int (0 : Int32))])) rfl rfl (hb hby d6_61) _) ?_
    rw [len_of Sz22 Nn22]
    show Go p e below _ (T1.setTop (mkF m 62 #[.val (.ref a1), .val (.ref a2), .val (.int p3), .val (.ref a3), .val (.int (0 : Int32)), .unset, .unset] [(.int (1 : Int32)), (.int (0 : Int32))]))
    refine Go.st (fun _ => XS.icmpNo X1.here hx rfl (hb hby d6_62) rfl (tlt (by decide : (0 : Int32) < (1 : Int32))).2.1) ?_
    show Go p e below _ (T1.setTop (mkF m 65 #[.val (.ref a1), .val (.ref a2), .val (.int p3), .val (.ref a3), .val (.int (0 : Int32)), .unset, .unset] []))
    refine Go.st (fun _ => XS.aloadN X1.here hx rfl (hb hby d6_65) rfl rfl) ?_
    show Go p e below _ (T1.setTop (mkF m 66 #[.val (.ref a1), .val (.ref a2), .val (.int p3), .val (.ref a3), .val (.int (0 : Int32)), .unset, .unset] [(.ref a3)]))
    refine Go.st (fun _ => XS.iload X1.here hx rfl (hb hby d6_66) rfl) ?_
    show Go p e below _ (T1.setTop (mkF m 68 #[.val (.ref a1), .val (.ref a2), .val (.int p3), .val (.ref a3), .val (.int (0 : Int32)), .unset, .unset] [(.int (0 : Int32)), (.ref a3)]))
    refine Go.st (fun _ => XS.aloadN X1.here hx rfl (hb hby d6_68) rfl rfl) ?_
    show Go p e below _ (T1.setTop (mkF m 69 #[.val (.ref a1), .val (.ref a2), .val (.int p3), .val (.ref a3), .val (.int (0 : Int32)), .unset, .unset] [(.ref a2), (.int (0 : Int32)), (.ref a3)]))
    refine Go.st (fun _ => XS.iloadN X1.here hx rfl (hb hby d6_69) rfl) ?_
    show Go p e below _ (T1.setTop (mkF m 70 #[.val (.ref a1), .val (.ref a2), .val (.int p3), .val (.ref a3), .val (.int (0 : Int32)), .unset, .unset] [(.int p3), (.ref a2), (.int (0 : Int32)), (.ref a3)]))
    refine Go.st (fun _ => XS.aloadN X1.here hx rfl (hb hby d6_70) rfl rfl) ?_
    show Go p e below _ (T1.setTop (mkF m 71 #[.val (.ref a1), .val (.ref a2), .val (.int p3), .val (.ref a3), .val (.int (0 : Int32)), .unset, .unset] [(.ref a1), (.int p3), (.ref a2), (.int (0 : Int32)), (.ref a3)]))
    obtain ⟨T23, X23, e23, st23⟩ := getF X1 hx hZ hown (host := "") (Or.inl (hw _ (List.mem_of_getElem? (i := 24) rfl))) Via.refl e1 Fw (g := (mkF m 71 #[.val (.ref a1), .val (.ref a2), .val (.int p3), .val (.ref a3), .val (.int (0 : Int32)), .unset, .unset] [(.ref a1), (.int p3), (.ref a2), (.int (0 : Int32)), (.ref a3)])) rfl rfl (hb hby d6_71)
    refine Go.st st23 ?_
    show Go p e below _ (T23.setTop (mkF m 74 #[.val (.ref a1), .val (.ref a2), .val (.int p3), .val (.ref a3), .val (.int (0 : Int32)), .unset, .unset] [(.ref aw), (.int p3), (.ref a2), (.int (0 : Int32)), (.ref a3)]))
    refine Go.st (fun _ => XS.iload X23.here hx rfl (hb hby d6_74) rfl) ?_
    show Go p e below _ (T23.setTop (mkF m 76 #[.val (.ref a1), .val (.ref a2), .val (.int p3), .val (.ref a3), .val (.int (0 : Int32)), .unset, .unset] [(.int (0 : Int32)), (.ref aw), (.int p3), (.ref a2), (.int (0 : Int32)), (.ref a3)]))
    obtain ⟨cl24, Ar24, qk24, Sz24, Nn24, Ha24, Ga24⟩ := id Vw
    have hin24 : ¬ ((0 : Int32) < 0 ∨ cl24.slots.size ≤ ((0 : Int32) : Int32).toNatClampNeg) := inb_of Sz24 ⟨by decide, by decide⟩
    refine Go.st (fun _ => X23.iaload hx (j := (0 : Int32)) (v := (.int x0)) (by rw [e23]; exact Ar24.1) (State.isArrayOf_alike hZ.alike Ar24.2.1) Ar24.2.2 hin24 (Has.at Ha24 hin24 rfl) (g := (mkF m 76 #[.val (.ref a1), .val (.ref a2), .val (.int p3), .val (.ref a3), .val (.int (0 : Int32)), .unset, .unset] [(.int (0 : Int32)), (.ref aw), (.int p3), (.ref a2), (.int (0 : Int32)), (.ref a3)])) rfl rfl (hb hby d6_76) _) ?_
    show Go p e below _ (T23.setTop (mkF m 77 #[.val (.ref a1), .val (.ref a2), .val (.int p3), .val (.ref a3), .val (.int (0 : Int32)), .unset, .unset] [(.int x0), (.int p3), (.ref a2), (.int (0 : Int32)), (.ref a3)]))
    refine Go.st (fun _ => XS.iadd X23.here hx rfl (hb hby d6_77) rfl) ?_
    show Go p e below _ (T23.setTop (mkF m 78 #[.val (.ref a1), .val (.ref a2), .val (.int p3), .val (.ref a3), .val (.int (0 : Int32)), .unset, .unset] [(.int (p3 + x0)), (.ref a2), (.int (0 : Int32)), (.ref a3)]))
    obtain ⟨cl25, Ar25, hin25, hat25, -⟩ := LAr_in KA (j := (p3 + x0)) hj0_0 hj0_1
    refine Go.st (fun _ => X23.laload hx (j := (p3 + x0)) (v := (.long (f ((p3 + x0)).toNatClampNeg))) (by rw [e23]; exact Ar25.1) (State.isArrayOf_alike hZ.alike Ar25.2.1) Ar25.2.2 hin25 hat25 (g := (mkF m 78 #[.val (.ref a1), .val (.ref a2), .val (.int p3), .val (.ref a3), .val (.int (0 : Int32)), .unset, .unset] [(.int (p3 + x0)), (.ref a2), (.int (0 : Int32)), (.ref a3)])) rfl rfl (hb hby d6_78) _) ?_
    show Go p e below _ (T23.setTop (mkF m 79 #[.val (.ref a1), .val (.ref a2), .val (.int p3), .val (.ref a3), .val (.int (0 : Int32)), .unset, .unset] [(.long (f ((p3 + x0)).toNatClampNeg)), (.int (0 : Int32)), (.ref a3)]))
    refine Go.st (fun _ => XS.aloadN X23.here hx rfl (hb hby d6_79) rfl rfl) ?_
    show Go p e below _ (T23.setTop (mkF m 80 #[.val (.ref a1), .val (.ref a2), .val (.int p3), .val (.ref a3), .val (.int (0 : Int32)), .unset, .unset] [(.ref a1), (.long (f ((p3 + x0)).toNatClampNeg)), (.int (0 : Int32)), (.ref a3)]))
    obtain ⟨T26, X26, e26, st26⟩ := getF X23 hx hZ hown (host := "") (Or.inl (hw _ (List.mem_of_getElem? (i := 26) rfl))) Via.refl e23 Fsh (g := (mkF m 80 #[.val (.ref a1), .val (.ref a2), .val (.int p3), .val (.ref a3), .val (.int (0 : Int32)), .unset, .unset] [(.ref a1), (.long (f ((p3 + x0)).toNatClampNeg)), (.int (0 : Int32)), (.ref a3)])) rfl rfl (hb hby d6_80)
    refine Go.st st26 ?_
    show Go p e below _ (T26.setTop (mkF m 83 #[.val (.ref a1), .val (.ref a2), .val (.int p3), .val (.ref a3), .val (.int (0 : Int32)), .unset, .unset] [(.ref as), (.long (f ((p3 + x0)).toNatClampNeg)), (.int (0 : Int32)), (.ref a3)]))
    refine Go.st (fun _ => XS.iload X26.here hx rfl (hb hby d6_83) rfl) ?_
    show Go p e below _ (T26.setTop (mkF m 85 #[.val (.ref a1), .val (.ref a2), .val (.int p3), .val (.ref a3), .val (.int (0 : Int32)), .unset, .unset] [(.int (0 : Int32)), (.ref as), (.long (f ((p3 + x0)).toNatClampNeg)), (.int (0 : Int32)), (.ref a3)]))
    obtain ⟨cl27, Ar27, qk27, Sz27, Nn27, Ha27, Ga27⟩ := id Vs
    have hin27 : ¬ ((0 : Int32) < 0 ∨ cl27.slots.size ≤ ((0 : Int32) : Int32).toNatClampNeg) := inb_of Sz27 ⟨by decide, by decide⟩
    refine Go.st (fun _ => X26.iaload hx (j := (0 : Int32)) (v := (.int y0)) (by rw [e26]; exact Ar27.1) (State.isArrayOf_alike hZ.alike Ar27.2.1) Ar27.2.2 hin27 (Has.at Ha27 hin27 rfl) (g := (mkF m 85 #[.val (.ref a1), .val (.ref a2), .val (.int p3), .val (.ref a3), .val (.int (0 : Int32)), .unset, .unset] [(.int (0 : Int32)), (.ref as), (.long (f ((p3 + x0)).toNatClampNeg)), (.int (0 : Int32)), (.ref a3)])) rfl rfl (hb hby d6_85) _) ?_
    show Go p e below _ (T26.setTop (mkF m 86 #[.val (.ref a1), .val (.ref a2), .val (.int p3), .val (.ref a3), .val (.int (0 : Int32)), .unset, .unset] [(.int y0), (.long (f ((p3 + x0)).toNatClampNeg)), (.int (0 : Int32)), (.ref a3)]))
    refine Go.st (fun _ => XS.lushr X26.here hx rfl (hb hby d6_86) rfl) ?_
    show Go p e below _ (T26.setTop (mkF m 87 #[.val (.ref a1), .val (.ref a2), .val (.int p3), .val (.ref a3), .val (.int (0 : Int32)), .unset, .unset] [(.long (((f ((p3 + x0)).toNatClampNeg).toUInt64 >>> (y0 &&& 0x3f).toInt64.toUInt64).toInt64)), (.int (0 : Int32)), (.ref a3)]))
    refine Go.st (fun _ => XS.aloadN X26.here hx rfl (hb hby d6_87) rfl rfl) ?_
    show Go p e below _ (T26.setTop (mkF m 88 #[.val (.ref a1), .val (.ref a2), .val (.int p3), .val (.ref a3), .val (.int (0 : Int32)), .unset, .unset] [(.ref a1), (.long (((f ((p3 + x0)).toNatClampNeg).toUInt64 >>> (y0 &&& 0x3f).toInt64.toUInt64).toInt64)), (.int (0 : Int32)), (.ref a3)]))
    obtain ⟨T28, X28, e28, st28⟩ := getF X26 hx hZ hown (host := "") (Or.inl (hw _ (List.mem_of_getElem? (i := 28) rfl))) Via.refl e26 Fm (g := (mkF m 88 #[.val (.ref a1), .val (.ref a2), .val (.int p3), .val (.ref a3), .val (.int (0 : Int32)), .unset, .unset] [(.ref a1), (.long (((f ((p3 + x0)).toNatClampNeg).toUInt64 >>> (y0 &&& 0x3f).toInt64.toUInt64).toInt64)), (.int (0 : Int32)), (.ref a3)])) rfl rfl (hb hby d6_88)
    refine Go.st st28 ?_
    show Go p e below _ (T28.setTop (mkF m 91 #[.val (.ref a1), .val (.ref a2), .val (.int p3), .val (.ref a3), .val (.int (0 : Int32)), .unset, .unset] [(.ref am), (.long (((f ((p3 + x0)).toNatClampNeg).toUInt64 >>> (y0 &&& 0x3f).toInt64.toUInt64).toInt64)), (.int (0 : Int32)), (.ref a3)]))
    refine Go.st (fun _ => XS.iload X28.here hx rfl (hb hby d6_91) rfl) ?_
    show Go p e below _ (T28.setTop (mkF m 93 #[.val (.ref a1), .val (.ref a2), .val (.int p3), .val (.ref a3), .val (.int (0 : Int32)), .unset, .unset] [(.int (0 : Int32)), (.ref am), (.long (((f ((p3 + x0)).toNatClampNeg).toUInt64 >>> (y0 &&& 0x3f).toInt64.toUInt64).toInt64)), (.int (0 : Int32)), (.ref a3)]))
    obtain ⟨cl29, Ar29, qk29, Sz29, Nn29, Ha29, Ga29⟩ := id Vm
    have hin29 : ¬ ((0 : Int32) < 0 ∨ cl29.slots.size ≤ ((0 : Int32) : Int32).toNatClampNeg) := inb_of Sz29 ⟨by decide, by decide⟩
    refine Go.st (fun _ => X28.laload hx (j := (0 : Int32)) (v := (.long z0)) (by rw [e28]; exact Ar29.1) (State.isArrayOf_alike hZ.alike Ar29.2.1) Ar29.2.2 hin29 (Has.at Ha29 hin29 rfl) (g := (mkF m 93 #[.val (.ref a1), .val (.ref a2), .val (.int p3), .val (.ref a3), .val (.int (0 : Int32)), .unset, .unset] [(.int (0 : Int32)), (.ref am), (.long (((f ((p3 + x0)).toNatClampNeg).toUInt64 >>> (y0 &&& 0x3f).toInt64.toUInt64).toInt64)), (.int (0 : Int32)), (.ref a3)])) rfl rfl (hb hby d6_93) _) ?_
    show Go p e below _ (T28.setTop (mkF m 94 #[.val (.ref a1), .val (.ref a2), .val (.int p3), .val (.ref a3), .val (.int (0 : Int32)), .unset, .unset] [(.long z0), (.long (((f ((p3 + x0)).toNatClampNeg).toUInt64 >>> (y0 &&& 0x3f).toInt64.toUInt64).toInt64)), (.int (0 : Int32)), (.ref a3)]))
    refine Go.st (fun _ => XS.land X28.here hx rfl (hb hby d6_94) rfl) ?_
    show Go p e below _ (T28.setTop (mkF m 95 #[.val (.ref a1), .val (.ref a2), .val (.int p3), .val (.ref a3), .val (.int (0 : Int32)), .unset, .unset] [(.long ((((f ((p3 + x0)).toNatClampNeg).toUInt64 >>> (y0 &&& 0x3f).toInt64.toUInt64).toInt64) &&& z0)), (.int (0 : Int32)), (.ref a3)]))
    refine Go.st (fun _ => XS.l2i X28.here hx rfl (hb hby d6_95) rfl) ?_
    show Go p e below _ (T28.setTop (mkF m 96 #[.val (.ref a1), .val (.ref a2), .val (.int p3), .val (.ref a3), .val (.int (0 : Int32)), .unset, .unset] [(.int (((((f ((p3 + x0)).toNatClampNeg).toUInt64 >>> (y0 &&& 0x3f).toInt64.toUInt64).toInt64) &&& z0).toInt32)), (.int (0 : Int32)), (.ref a3)]))
    obtain ⟨cl30, Ar30, qk30, Sz30, Nn30, Ha30, Ga30⟩ := id VI
    have hin30 : ¬ ((0 : Int32) < 0 ∨ cl30.slots.size ≤ ((0 : Int32) : Int32).toNatClampNeg) := inb_of Sz30 ⟨by decide, by decide⟩
    obtain ⟨T30, h30, X30, e30, W30, st30⟩ := stI X28 hx hZ e28 Ar30 (j := (0 : Int32)) hin30 (g := (mkF m 96 #[.val (.ref a1), .val (.ref a2), .val (.int p3), .val (.ref a3), .val (.int (0 : Int32)), .unset, .unset] [(.int (((((f ((p3 + x0)).toNatClampNeg).toUInt64 >>> (y0 &&& 0x3f).toInt64.toUInt64).toInt64) &&& z0).toInt32)), (.int (0 : Int32)), (.ref a3)])) rfl rfl (hb hby d6_96)
    refine Go.st st30 ?_
    have O31 : Old Z n0 h30 := O0.wr W30 g3
    have F32 : Fld Z h30 a1 "com/example/gieres/gieres/model/TupleTable" "word" "[I" (.ref aw) := Fw.other W30 (Or.inl ne_a1_a3)
    have V_33 : Arv Z h30 aw kw .int (3 : Int32) [(.int x0), (.int x1), (.int x2)] (.int (0 : Int32)) := Vw.other W30 ne_aw_a3
    have F34 : Fld Z h30 a1 "com/example/gieres/gieres/model/TupleTable" "shift" "[I" (.ref as) := Fsh.other W30 (Or.inl ne_a1_a3)
    have V_35 : Arv Z h30 as ks .int (3 : Int32) [(.int y0), (.int y1), (.int y2)] (.int (0 : Int32)) := Vs.other W30 ne_as_a3
    have F36 : Fld Z h30 a1 "com/example/gieres/gieres/model/TupleTable" "mask" "[J" (.ref am) := Fm.other W30 (Or.inl ne_a1_a3)
    have V_37 : Arv Z h30 am km .long (3 : Int32) [(.long z0), (.long z1), (.long z2)] (.long (0 : Int64)) := Vm.other W30 ne_am_a3
    have F38 : Fld Z h30 a1 "com/example/gieres/gieres/model/TupleTable" "width" "I" (.int wd) := Fwd.other W30 (Or.inl ne_a1_a3)
    have VL39 : LAr Z h30 a2 n f := LAr_other KA W30 ne_a2_a3
    have K40 : Keep h0 h30 [a3] := (Keep.refl h0 [a3]).wr W30 (Or.inl (List.mem_of_getElem? (i := 0) rfl))
    have V_41 : Arv Z h30 a3 ki .int (1 : Int32) [(.int (((((f ((p3 + x0)).toNatClampNeg).toUInt64 >>> (y0 &&& 0x3f).toInt64.toUInt64).toInt64) &&& z0).toInt32))] (.int (0 : Int32)) := Arv.set Ar30 qk30 Sz30 Nn30 Ha30 Ga30 rfl W30 0 rfl (Nat.le_of_ble_eq_true rfl)
    have N30 := Fr.snoc X30 N0 g3
    show Go p e below _ (T30.setTop (mkF m 97 #[.val (.ref a1), .val (.ref a2), .val (.int p3), .val (.ref a3), .val (.int (0 : Int32)), .unset, .unset] []))
    refine Go.st (fun _ => XS.iinc X30.here hx rfl (hb hby d6_97) rfl (l' := #[.val (.ref a1), .val (.ref a2), .val (.int p3), .val (.ref a3), .val (.int (1 : Int32)), .unset, .unset]) rfl) ?_
    show Go p e below _ (T30.setTop (mkF m 100 #[.val (.ref a1), .val (.ref a2), .val (.int p3), .val (.ref a3), .val (.int (1 : Int32)), .unset, .unset] []))
    refine Go.st (fun _ => XS.goto X30.here hx rfl (pc0 := 100) (pc' := 58) rfl (hb hby d6_100) (by decide) (by decide)) ?_
    show Go p e below _ (T30.setTop (mkF m 58 #[.val (.ref a1), .val (.ref a2), .val (.int p3), .val (.ref a3), .val (.int (1 : Int32)), .unset, .unset] []))
    refine Go.st (fun _ => XS.iload X30.here hx rfl (hb hby d6_58) rfl) ?_
    show Go p e below _ (T30.setTop (mkF m 60 #[.val (.ref a1), .val (.ref a2), .val (.int p3), .val (.ref a3), .val (.int (1 : Int32)), .unset, .unset] [(.int (1 : Int32))]))
    refine Go.st (fun _ => XS.aloadN X30.here hx rfl (hb hby d6_60) rfl rfl) ?_
    show Go p e below _ (T30.setTop (mkF m 61 #[.val (.ref a1), .val (.ref a2), .val (.int p3), .val (.ref a3), .val (.int (1 : Int32)), .unset, .unset] [(.ref a3), (.int (1 : Int32))]))
    obtain ⟨cl42, Ar42, qk42, Sz42, Nn42, Ha42, Ga42⟩ := id V_41
    refine Go.st (fun _ => X30.arraylength hx (by rw [e30]; exact Ar42.1) (State.isArrayOf_alike hZ.alike Ar42.2.1) (g := (mkF m 61 #[.val (.ref a1), .val (.ref a2), .val (.int p3), .val (.ref a3), .val (.int (1 : Int32)), .unset, .unset] [(.ref a3), (.int (1 : Int32))])) rfl rfl (hb hby d6_61) _) ?_
    rw [len_of Sz42 Nn42]
    show Go p e below _ (T30.setTop (mkF m 62 #[.val (.ref a1), .val (.ref a2), .val (.int p3), .val (.ref a3), .val (.int (1 : Int32)), .unset, .unset] [(.int (1 : Int32)), (.int (1 : Int32))]))
    refine Go.st (fun _ => XS.icmpYes X30.here hx rfl (pc0 := 62) (pc' := 103) rfl (hb hby d6_62) rfl (flt (by decide : ¬ ((1 : Int32) < (1 : Int32)))).2.1 (by decide) (by decide)) ?_
    show Go p e below _ (T30.setTop (mkF m 103 #[.val (.ref a1), .val (.ref a2), .val (.int p3), .val (.ref a3), .val (.int (1 : Int32)), .unset, .unset] []))
    exact goRetV X30 hx hlk hret e30 (hb hby d6_103) (by decide) (by decide) ⟨rfl, N30, K40, V_41⟩
set_option maxRecDepth 65536 in
set_option maxHeartbeats 40000000 in
theorem rmT2 (l : Launch) (Z : State) (a0 : Array Value) (hw : ∀ d ∈ tables_1, d.before a0 Z = true) (ws : List Jvm.Cond) (a1 a2 a3 aw as am : Addr) (kw ks km : ClassId) (x0 x1 x2 y0 y1 y2 : Int32) (z0 z1 z2 : Int64) (n : Nat) (f : Nat → Int64) (ki : ClassId) (p3 wd u0 u1 : Int32) (h0 : Heap) (n0 : Nat) (O0 : Old Z n0 h0) (Fw : Fld Z h0 a1 "com/example/gieres/gieres/model/TupleTable" "word" "[I" (.ref aw)) (Vw : Arv Z h0 aw kw .int (3 : Int32) [(.int x0), (.int x1), (.int x2)] (.int (0 : Int32))) (Fsh : Fld Z h0 a1 "com/example/gieres/gieres/model/TupleTable" "shift" "[I" (.ref as)) (Vs : Arv Z h0 as ks .int (3 : Int32) [(.int y0), (.int y1), (.int y2)] (.int (0 : Int32))) (Fm : Fld Z h0 a1 "com/example/gieres/gieres/model/TupleTable" "mask" "[J" (.ref am)) (Vm : Arv Z h0 am km .long (3 : Int32) [(.long z0), (.long z1), (.long z2)] (.long (0 : Int64))) (Fwd : Fld Z h0 a1 "com/example/gieres/gieres/model/TupleTable" "width" "I" (.int wd)) (KA : LAr Z h0 a2 n f) (VI : Arv Z h0 a3 ki .int (2 : Int32) [(.int u0), (.int u1)] (.int (0 : Int32))) (g3 : n0 ≤ a3) (ne_a1_a3 : a1 ≠ a3) (ne_a2_a3 : a2 ≠ a3) (ne_aw_a3 : aw ≠ a3) (ne_as_a3 : as ≠ a3) (ne_am_a3 : am ≠ a3) (hp0 : 0 ≤ p3.toInt) (hp1 : p3.toInt < n) (hj0_0 : 0 ≤ (p3 + x0).toInt) (hj0_1 : (p3 + x0).toInt < n) (hj1_0 : 0 ≤ (p3 + x1).toInt) (hj1_1 : (p3 + x1).toInt < n) (hj2_0 : 0 ≤ (p3 + x2).toInt) (hj2_1 : (p3 + x2).toInt < n) (hx1 : wd = 1 → x0 = 0 ∧ x1 = 0 ∧ x2 = 0) :
    Ctr l (⟨"com/example/gieres/gieres/model/TupleTable", "states", "([JI[I)V"⟩ : MethodName) prog_137_method_8_code 7 none ws ({ frames := 0, cells := 0, slots := 0, locals := 0 } : Room) #[(.ref a1), (.ref a2), (.int p3), (.ref a3)] Z h0 (fun v h L => v = none ∧ Fr n0 L ∧ Keep h0 h [a3] ∧ Arv Z h a3 ki .int (2 : Int32) [(.int ((own_get (f (p3 + x0).toNatClampNeg) z0 y0).toInt32)), (.int ((own_get (f (p3 + x1).toNatClampNeg) z1 y1).toInt32))] (.int (0 : Int32))) := by
  have ef : ∀ m : MethodId, entryFrame m #[(.ref a1), (.ref a2), (.int p3), (.ref a3)] 7 = mkF m 0 #[.val (.ref a1), .val (.ref a2), .val (.int p3), .val (.ref a3), .unset, .unset, .unset] [] := fun m => by first | (simp [entryFrame, mkF, argsToLocals, Value.category]; done) | rfl
  refine Ctr.of (plainFor_of_name pn_6) ?_
  intro p e s m below meth c s₁ hx hZ hby hml hown0 hnm hret hlk X0 e0
  have hown : s.vm.findClass "com/example/gieres/gieres/model/TupleTable" = some m.cls := hown0
  have N0 := Fr.nil n0
  refine Go.st (fun t k => castTop (ef m) k) ?_
  show Go p e below _ (s₁.setTop (mkF m 0 #[.val (.ref a1), .val (.ref a2), .val (.int p3), .val (.ref a3), .unset, .unset, .unset] []))
  refine Go.st (fun _ => XS.aloadN X0.here hx rfl (hb hby d6_0) rfl rfl) ?_
  show Go p e below _ (s₁.setTop (mkF m 1 #[.val (.ref a1), .val (.ref a2), .val (.int p3), .val (.ref a3), .unset, .unset, .unset] [(.ref a1)]))
  obtain ⟨T1, X1, e1, st1⟩ := getF X0 hx hZ hown (host := "") (Or.inl (hw _ (List.mem_of_getElem? (i := 39) rfl))) Via.refl e0 Fwd (g := (mkF m 1 #[.val (.ref a1), .val (.ref a2), .val (.int p3), .val (.ref a3), .unset, .unset, .unset] [(.ref a1)])) rfl rfl (hb hby d6_1)
  refine Go.st st1 ?_
  show Go p e below _ (T1.setTop (mkF m 4 #[.val (.ref a1), .val (.ref a2), .val (.int p3), .val (.ref a3), .unset, .unset, .unset] [(.int wd)]))
  refine Go.st (fun _ => XS.iconst X1.here hx rfl (hb hby d6_4)) ?_
  show Go p e below _ (T1.setTop (mkF m 5 #[.val (.ref a1), .val (.ref a2), .val (.int p3), .val (.ref a3), .unset, .unset, .unset] [(.int (1 : Int32)), (.int wd)]))
  by_cases hc2 : wd = (1 : Int32)
  · refine Go.st (fun _ => XS.icmpNo X1.here hx rfl (hb hby d6_5) rfl (teq hc2).2) ?_
    show Go p e below _ (T1.setTop (mkF m 8 #[.val (.ref a1), .val (.ref a2), .val (.int p3), .val (.ref a3), .unset, .unset, .unset] []))
    refine Go.st (fun _ => XS.aloadN X1.here hx rfl (hb hby d6_8) rfl rfl) ?_
    show Go p e below _ (T1.setTop (mkF m 9 #[.val (.ref a1), .val (.ref a2), .val (.int p3), .val (.ref a3), .unset, .unset, .unset] [(.ref a2)]))
    refine Go.st (fun _ => XS.iloadN X1.here hx rfl (hb hby d6_9) rfl) ?_
    show Go p e below _ (T1.setTop (mkF m 10 #[.val (.ref a1), .val (.ref a2), .val (.int p3), .val (.ref a3), .unset, .unset, .unset] [(.int p3), (.ref a2)]))
    obtain ⟨cl3, Ar3, hin3, hat3, -⟩ := LAr_in KA (j := p3) hp0 hp1
    refine Go.st (fun _ => X1.laload hx (j := p3) (v := (.long (f (p3).toNatClampNeg))) (by rw [e1]; exact Ar3.1) (State.isArrayOf_alike hZ.alike Ar3.2.1) Ar3.2.2 hin3 hat3 (g := (mkF m 10 #[.val (.ref a1), .val (.ref a2), .val (.int p3), .val (.ref a3), .unset, .unset, .unset] [(.int p3), (.ref a2)])) rfl rfl (hb hby d6_10) _) ?_
    show Go p e below _ (T1.setTop (mkF m 11 #[.val (.ref a1), .val (.ref a2), .val (.int p3), .val (.ref a3), .unset, .unset, .unset] [(.long (f (p3).toNatClampNeg))]))
    refine Go.st (fun _ => XS.lstore X1.here hx rfl (hb hby d6_11) rfl (l' := #[.val (.ref a1), .val (.ref a2), .val (.int p3), .val (.ref a3), .val (.long (f (p3).toNatClampNeg)), .second, .unset]) rfl) ?_
    show Go p e below _ (T1.setTop (mkF m 13 #[.val (.ref a1), .val (.ref a2), .val (.int p3), .val (.ref a3), .val (.long (f (p3).toNatClampNeg)), .second, .unset] []))
    refine Go.st (fun _ => XS.iconst X1.here hx rfl (hb hby d6_13)) ?_
    show Go p e below _ (T1.setTop (mkF m 14 #[.val (.ref a1), .val (.ref a2), .val (.int p3), .val (.ref a3), .val (.long (f (p3).toNatClampNeg)), .second, .unset] [(.int (0 : Int32))]))
    refine Go.st (fun _ => XS.istore X1.here hx rfl (hb hby d6_14) rfl (l' := #[.val (.ref a1), .val (.ref a2), .val (.int p3), .val (.ref a3), .val (.long (f (p3).toNatClampNeg)), .second, .val (.int (0 : Int32))]) rfl) ?_
    show Go p e below _ (T1.setTop (mkF m 16 #[.val (.ref a1), .val (.ref a2), .val (.int p3), .val (.ref a3), .val (.long (f (p3).toNatClampNeg)), .second, .val (.int (0 : Int32))] []))
    refine Go.st (fun _ => XS.iload X1.here hx rfl (hb hby d6_16) rfl) ?_
    show Go p e below _ (T1.setTop (mkF m 18 #[.val (.ref a1), .val (.ref a2), .val (.int p3), .val (.ref a3), .val (.long (f (p3).toNatClampNeg)), .second, .val (.int (0 : Int32))] [(.int (0 : Int32))]))
    refine Go.st (fun _ => XS.aloadN X1.here hx rfl (hb hby d6_18) rfl rfl) ?_
    show Go p e below _ (T1.setTop (mkF m 19 #[.val (.ref a1), .val (.ref a2), .val (.int p3), .val (.ref a3), .val (.long (f (p3).toNatClampNeg)), .second, .val (.int (0 : Int32))] [(.ref a3), (.int (0 : Int32))]))
    obtain ⟨cl4, Ar4, qk4, Sz4, Nn4, Ha4, Ga4⟩ := id VI
    refine Go.st (fun _ => X1.arraylength hx (by rw [e1]; exact Ar4.1) (State.isArrayOf_alike hZ.alike Ar4.2.1) (g := (mkF m 19 #[.val (.ref a1), .val (.ref a2), .val (.int p3), .val (.ref a3), .val (.long (f (p3).toNatClampNeg)), .second, .val (.int (0 : Int32))] [(.ref a3), (.int (0 : Int32))])) rfl rfl (hb hby d6_19) _) ?_
    rw [len_of Sz4 Nn4]
    show Go p e below _ (T1.setTop (mkF m 20 #[.val (.ref a1), .val (.ref a2), .val (.int p3), .val (.ref a3), .val (.long (f (p3).toNatClampNeg)), .second, .val (.int (0 : Int32))] [(.int (2 : Int32)), (.int (0 : Int32))]))
    refine Go.st (fun _ => XS.icmpNo X1.here hx rfl (hb hby d6_20) rfl (tlt (by decide : (0 : Int32) < (2 : Int32))).2.1) ?_
    show Go p e below _ (T1.setTop (mkF m 23 #[.val (.ref a1), .val (.ref a2), .val (.int p3), .val (.ref a3), .val (.long (f (p3).toNatClampNeg)), .second, .val (.int (0 : Int32))] []))
    refine Go.st (fun _ => XS.aloadN X1.here hx rfl (hb hby d6_23) rfl rfl) ?_
    show Go p e below _ (T1.setTop (mkF m 24 #[.val (.ref a1), .val (.ref a2), .val (.int p3), .val (.ref a3), .val (.long (f (p3).toNatClampNeg)), .second, .val (.int (0 : Int32))] [(.ref a3)]))
    refine Go.st (fun _ => XS.iload X1.here hx rfl (hb hby d6_24) rfl) ?_
    show Go p e below _ (T1.setTop (mkF m 26 #[.val (.ref a1), .val (.ref a2), .val (.int p3), .val (.ref a3), .val (.long (f (p3).toNatClampNeg)), .second, .val (.int (0 : Int32))] [(.int (0 : Int32)), (.ref a3)]))
    refine Go.st (fun _ => XS.lload X1.here hx rfl (hb hby d6_26) rfl) ?_
    show Go p e below _ (T1.setTop (mkF m 28 #[.val (.ref a1), .val (.ref a2), .val (.int p3), .val (.ref a3), .val (.long (f (p3).toNatClampNeg)), .second, .val (.int (0 : Int32))] [(.long (f (p3).toNatClampNeg)), (.int (0 : Int32)), (.ref a3)]))
    refine Go.st (fun _ => XS.aloadN X1.here hx rfl (hb hby d6_28) rfl rfl) ?_
    show Go p e below _ (T1.setTop (mkF m 29 #[.val (.ref a1), .val (.ref a2), .val (.int p3), .val (.ref a3), .val (.long (f (p3).toNatClampNeg)), .second, .val (.int (0 : Int32))] [(.ref a1), (.long (f (p3).toNatClampNeg)), (.int (0 : Int32)), (.ref a3)]))
    obtain ⟨T5, X5, e5, st5⟩ := getF X1 hx hZ hown (host := "") (Or.inl (hw _ (List.mem_of_getElem? (i := 26) rfl))) Via.refl e1 Fsh (g := (mkF m 29 #[.val (.ref a1), .val (.ref a2), .val (.int p3), .val (.ref a3), .val (.long (f (p3).toNatClampNeg)), .second, .val (.int (0 : Int32))] [(.ref a1), (.long (f (p3).toNatClampNeg)), (.int (0 : Int32)), (.ref a3)])) rfl rfl (hb hby d6_29)
    refine Go.st st5 ?_
    show Go p e below _ (T5.setTop (mkF m 32 #[.val (.ref a1), .val (.ref a2), .val (.int p3), .val (.ref a3), .val (.long (f (p3).toNatClampNeg)), .second, .val (.int (0 : Int32))] [(.ref as), (.long (f (p3).toNatClampNeg)), (.int (0 : Int32)), (.ref a3)]))
    refine Go.st (fun _ => XS.iload X5.here hx rfl (hb hby d6_32) rfl) ?_
    show Go p e below _ (T5.setTop (mkF m 34 #[.val (.ref a1), .val (.ref a2), .val (.int p3), .val (.ref a3), .val (.long (f (p3).toNatClampNeg)), .second, .val (.int (0 : Int32))] [(.int (0 : Int32)), (.ref as), (.long (f (p3).toNatClampNeg)), (.int (0 : Int32)), (.ref a3)]))
    obtain ⟨cl6, Ar6, qk6, Sz6, Nn6, Ha6, Ga6⟩ := id Vs
    have hin6 : ¬ ((0 : Int32) < 0 ∨ cl6.slots.size ≤ ((0 : Int32) : Int32).toNatClampNeg) := inb_of Sz6 ⟨by decide, by decide⟩
    refine Go.st (fun _ => X5.iaload hx (j := (0 : Int32)) (v := (.int y0)) (by rw [e5]; exact Ar6.1) (State.isArrayOf_alike hZ.alike Ar6.2.1) Ar6.2.2 hin6 (Has.at Ha6 hin6 rfl) (g := (mkF m 34 #[.val (.ref a1), .val (.ref a2), .val (.int p3), .val (.ref a3), .val (.long (f (p3).toNatClampNeg)), .second, .val (.int (0 : Int32))] [(.int (0 : Int32)), (.ref as), (.long (f (p3).toNatClampNeg)), (.int (0 : Int32)), (.ref a3)])) rfl rfl (hb hby d6_34) _) ?_
    show Go p e below _ (T5.setTop (mkF m 35 #[.val (.ref a1), .val (.ref a2), .val (.int p3), .val (.ref a3), .val (.long (f (p3).toNatClampNeg)), .second, .val (.int (0 : Int32))] [(.int y0), (.long (f (p3).toNatClampNeg)), (.int (0 : Int32)), (.ref a3)]))
    refine Go.st (fun _ => XS.lushr X5.here hx rfl (hb hby d6_35) rfl) ?_
    show Go p e below _ (T5.setTop (mkF m 36 #[.val (.ref a1), .val (.ref a2), .val (.int p3), .val (.ref a3), .val (.long (f (p3).toNatClampNeg)), .second, .val (.int (0 : Int32))] [(.long (((f (p3).toNatClampNeg).toUInt64 >>> (y0 &&& 0x3f).toInt64.toUInt64).toInt64)), (.int (0 : Int32)), (.ref a3)]))
    refine Go.st (fun _ => XS.aloadN X5.here hx rfl (hb hby d6_36) rfl rfl) ?_
    show Go p e below _ (T5.setTop (mkF m 37 #[.val (.ref a1), .val (.ref a2), .val (.int p3), .val (.ref a3), .val (.long (f (p3).toNatClampNeg)), .second, .val (.int (0 : Int32))] [(.ref a1), (.long (((f (p3).toNatClampNeg).toUInt64 >>> (y0 &&& 0x3f).toInt64.toUInt64).toInt64)), (.int (0 : Int32)), (.ref a3)]))
    obtain ⟨T7, X7, e7, st7⟩ := getF X5 hx hZ hown (host := "") (Or.inl (hw _ (List.mem_of_getElem? (i := 28) rfl))) Via.refl e5 Fm (g := (mkF m 37 #[.val (.ref a1), .val (.ref a2), .val (.int p3), .val (.ref a3), .val (.long (f (p3).toNatClampNeg)), .second, .val (.int (0 : Int32))] [(.ref a1), (.long (((f (p3).toNatClampNeg).toUInt64 >>> (y0 &&& 0x3f).toInt64.toUInt64).toInt64)), (.int (0 : Int32)), (.ref a3)])) rfl rfl (hb hby d6_37)
    refine Go.st st7 ?_
    show Go p e below _ (T7.setTop (mkF m 40 #[.val (.ref a1), .val (.ref a2), .val (.int p3), .val (.ref a3), .val (.long (f (p3).toNatClampNeg)), .second, .val (.int (0 : Int32))] [(.ref am), (.long (((f (p3).toNatClampNeg).toUInt64 >>> (y0 &&& 0x3f).toInt64.toUInt64).toInt64)), (.int (0 : Int32)), (.ref a3)]))
    refine Go.st (fun _ => XS.iload X7.here hx rfl (hb hby d6_40) rfl) ?_
    show Go p e below _ (T7.setTop (mkF m 42 #[.val (.ref a1), .val (.ref a2), .val (.int p3), .val (.ref a3), .val (.long (f (p3).toNatClampNeg)), .second, .val (.int (0 : Int32))] [(.int (0 : Int32)), (.ref am), (.long (((f (p3).toNatClampNeg).toUInt64 >>> (y0 &&& 0x3f).toInt64.toUInt64).toInt64)), (.int (0 : Int32)), (.ref a3)]))
    obtain ⟨cl8, Ar8, qk8, Sz8, Nn8, Ha8, Ga8⟩ := id Vm
    have hin8 : ¬ ((0 : Int32) < 0 ∨ cl8.slots.size ≤ ((0 : Int32) : Int32).toNatClampNeg) := inb_of Sz8 ⟨by decide, by decide⟩
    refine Go.st (fun _ => X7.laload hx (j := (0 : Int32)) (v := (.long z0)) (by rw [e7]; exact Ar8.1) (State.isArrayOf_alike hZ.alike Ar8.2.1) Ar8.2.2 hin8 (Has.at Ha8 hin8 rfl) (g := (mkF m 42 #[.val (.ref a1), .val (.ref a2), .val (.int p3), .val (.ref a3), .val (.long (f (p3).toNatClampNeg)), .second, .val (.int (0 : Int32))] [(.int (0 : Int32)), (.ref am), (.long (((f (p3).toNatClampNeg).toUInt64 >>> (y0 &&& 0x3f).toInt64.toUInt64).toInt64)), (.int (0 : Int32)), (.ref a3)])) rfl rfl (hb hby d6_42) _) ?_
    show Go p e below _ (T7.setTop (mkF m 43 #[.val (.ref a1), .val (.ref a2), .val (.int p3), .val (.ref a3), .val (.long (f (p3).toNatClampNeg)), .second, .val (.int (0 : Int32))] [(.long z0), (.long (((f (p3).toNatClampNeg).toUInt64 >>> (y0 &&& 0x3f).toInt64.toUInt64).toInt64)), (.int (0 : Int32)), (.ref a3)]))
    refine Go.st (fun _ => XS.land X7.here hx rfl (hb hby d6_43) rfl) ?_
    show Go p e below _ (T7.setTop (mkF m 44 #[.val (.ref a1), .val (.ref a2), .val (.int p3), .val (.ref a3), .val (.long (f (p3).toNatClampNeg)), .second, .val (.int (0 : Int32))] [(.long ((((f (p3).toNatClampNeg).toUInt64 >>> (y0 &&& 0x3f).toInt64.toUInt64).toInt64) &&& z0)), (.int (0 : Int32)), (.ref a3)]))
    refine Go.st (fun _ => XS.l2i X7.here hx rfl (hb hby d6_44) rfl) ?_
    show Go p e below _ (T7.setTop (mkF m 45 #[.val (.ref a1), .val (.ref a2), .val (.int p3), .val (.ref a3), .val (.long (f (p3).toNatClampNeg)), .second, .val (.int (0 : Int32))] [(.int (((((f (p3).toNatClampNeg).toUInt64 >>> (y0 &&& 0x3f).toInt64.toUInt64).toInt64) &&& z0).toInt32)), (.int (0 : Int32)), (.ref a3)]))
    obtain ⟨cl9, Ar9, qk9, Sz9, Nn9, Ha9, Ga9⟩ := id VI
    have hin9 : ¬ ((0 : Int32) < 0 ∨ cl9.slots.size ≤ ((0 : Int32) : Int32).toNatClampNeg) := inb_of Sz9 ⟨by decide, by decide⟩
    obtain ⟨T9, h9, X9, e9, W9, st9⟩ := stI X7 hx hZ e7 Ar9 (j := (0 : Int32)) hin9 (g := (mkF m 45 #[.val (.ref a1), .val (.ref a2), .val (.int p3), .val (.ref a3), .val (.long (f (p3).toNatClampNeg)), .second, .val (.int (0 : Int32))] [(.int (((((f (p3).toNatClampNeg).toUInt64 >>> (y0 &&& 0x3f).toInt64.toUInt64).toInt64) &&& z0).toInt32)), (.int (0 : Int32)), (.ref a3)])) rfl rfl (hb hby d6_45)
    refine Go.st st9 ?_
    have O10 : Old Z n0 h9 := O0.wr W9 g3
    have F11 : Fld Z h9 a1 "com/example/gieres/gieres/model/TupleTable" "word" "[I" (.ref aw) := Fw.other W9 (Or.inl ne_a1_a3)
    have V_12 : Arv Z h9 aw kw .int (3 : Int32) [(.int x0), (.int x1), (.int x2)] (.int (0 : Int32)) := Vw.other W9 ne_aw_a3
    have F13 : Fld Z h9 a1 "com/example/gieres/gieres/model/TupleTable" "shift" "[I" (.ref as) := Fsh.other W9 (Or.inl ne_a1_a3)
    have V_14 : Arv Z h9 as ks .int (3 : Int32) [(.int y0), (.int y1), (.int y2)] (.int (0 : Int32)) := Vs.other W9 ne_as_a3
    have F15 : Fld Z h9 a1 "com/example/gieres/gieres/model/TupleTable" "mask" "[J" (.ref am) := Fm.other W9 (Or.inl ne_a1_a3)
    have V_16 : Arv Z h9 am km .long (3 : Int32) [(.long z0), (.long z1), (.long z2)] (.long (0 : Int64)) := Vm.other W9 ne_am_a3
    have F17 : Fld Z h9 a1 "com/example/gieres/gieres/model/TupleTable" "width" "I" (.int wd) := Fwd.other W9 (Or.inl ne_a1_a3)
    have VL18 : LAr Z h9 a2 n f := LAr_other KA W9 ne_a2_a3
    have K19 : Keep h0 h9 [a3] := (Keep.refl h0 [a3]).wr W9 (Or.inl (List.mem_of_getElem? (i := 0) rfl))
    have V_20 : Arv Z h9 a3 ki .int (2 : Int32) [(.int (((((f (p3).toNatClampNeg).toUInt64 >>> (y0 &&& 0x3f).toInt64.toUInt64).toInt64) &&& z0).toInt32)), (.int u1)] (.int (0 : Int32)) := Arv.set Ar9 qk9 Sz9 Nn9 Ha9 Ga9 rfl W9 0 rfl (Nat.le_of_ble_eq_true rfl)
    have N9 := Fr.snoc X9 N0 g3
    show Go p e below _ (T9.setTop (mkF m 46 #[.val (.ref a1), .val (.ref a2), .val (.int p3), .val (.ref a3), .val (.long (f (p3).toNatClampNeg)), .second, .val (.int (0 : Int32))] []))
    refine Go.st (fun _ => XS.iinc X9.here hx rfl (hb hby d6_46) rfl (l' := #[.val (.ref a1), .val (.ref a2), .val (.int p3), .val (.ref a3), .val (.long (f (p3).toNatClampNeg)), .second, .val (.int (1 : Int32))]) rfl) ?_
    show Go p e below _ (T9.setTop (mkF m 49 #[.val (.ref a1), .val (.ref a2), .val (.int p3), .val (.ref a3), .val (.long (f (p3).toNatClampNeg)), .second, .val (.int (1 : Int32))] []))
    refine Go.st (fun _ => XS.goto X9.here hx rfl (pc0 := 49) (pc' := 16) rfl (hb hby d6_49) (by decide) (by decide)) ?_
    show Go p e below _ (T9.setTop (mkF m 16 #[.val (.ref a1), .val (.ref a2), .val (.int p3), .val (.ref a3), .val (.long (f (p3).toNatClampNeg)), .second, .val (.int (1 : Int32))] []))
    refine Go.st (fun _ => XS.iload X9.here hx rfl (hb hby d6_16) rfl) ?_
    show Go p e below _ (T9.setTop (mkF m 18 #[.val (.ref a1), .val (.ref a2), .val (.int p3), .val (.ref a3), .val (.long (f (p3).toNatClampNeg)), .second, .val (.int (1 : Int32))] [(.int (1 : Int32))]))
    refine Go.st (fun _ => XS.aloadN X9.here hx rfl (hb hby d6_18) rfl rfl) ?_
    show Go p e below _ (T9.setTop (mkF m 19 #[.val (.ref a1), .val (.ref a2), .val (.int p3), .val (.ref a3), .val (.long (f (p3).toNatClampNeg)), .second, .val (.int (1 : Int32))] [(.ref a3), (.int (1 : Int32))]))
    obtain ⟨cl21, Ar21, qk21, Sz21, Nn21, Ha21, Ga21⟩ := id V_20
    refine Go.st (fun _ => X9.arraylength hx (by rw [e9]; exact Ar21.1) (State.isArrayOf_alike hZ.alike Ar21.2.1) (g := (mkF m 19 #[.val (.ref a1), .val (.ref a2), .val (.int p3), .val (.ref a3), .val (.long (f (p3).toNatClampNeg)), .second, .val (.int (1 : Int32))] [(.ref a3), (.int (1 : Int32))])) rfl rfl (hb hby d6_19) _) ?_
    rw [len_of Sz21 Nn21]
    show Go p e below _ (T9.setTop (mkF m 20 #[.val (.ref a1), .val (.ref a2), .val (.int p3), .val (.ref a3), .val (.long (f (p3).toNatClampNeg)), .second, .val (.int (1 : Int32))] [(.int (2 : Int32)), (.int (1 : Int32))]))
    refine Go.st (fun _ => XS.icmpNo X9.here hx rfl (hb hby d6_20) rfl (tlt (by decide : (1 : Int32) < (2 : Int32))).2.1) ?_
    show Go p e below _ (T9.setTop (mkF m 23 #[.val (.ref a1), .val (.ref a2), .val (.int p3), .val (.ref a3), .val (.long (f (p3).toNatClampNeg)), .second, .val (.int (1 : Int32))] []))
    refine Go.st (fun _ => XS.aloadN X9.here hx rfl (hb hby d6_23) rfl rfl) ?_
    show Go p e below _ (T9.setTop (mkF m 24 #[.val (.ref a1), .val (.ref a2), .val (.int p3), .val (.ref a3), .val (.long (f (p3).toNatClampNeg)), .second, .val (.int (1 : Int32))] [(.ref a3)]))
    refine Go.st (fun _ => XS.iload X9.here hx rfl (hb hby d6_24) rfl) ?_
    show Go p e below _ (T9.setTop (mkF m 26 #[.val (.ref a1), .val (.ref a2), .val (.int p3), .val (.ref a3), .val (.long (f (p3).toNatClampNeg)), .second, .val (.int (1 : Int32))] [(.int (1 : Int32)), (.ref a3)]))
    refine Go.st (fun _ => XS.lload X9.here hx rfl (hb hby d6_26) rfl) ?_
    show Go p e below _ (T9.setTop (mkF m 28 #[.val (.ref a1), .val (.ref a2), .val (.int p3), .val (.ref a3), .val (.long (f (p3).toNatClampNeg)), .second, .val (.int (1 : Int32))] [(.long (f (p3).toNatClampNeg)), (.int (1 : Int32)), (.ref a3)]))
    refine Go.st (fun _ => XS.aloadN X9.here hx rfl (hb hby d6_28) rfl rfl) ?_
    show Go p e below _ (T9.setTop (mkF m 29 #[.val (.ref a1), .val (.ref a2), .val (.int p3), .val (.ref a3), .val (.long (f (p3).toNatClampNeg)), .second, .val (.int (1 : Int32))] [(.ref a1), (.long (f (p3).toNatClampNeg)), (.int (1 : Int32)), (.ref a3)]))
    obtain ⟨T22, X22, e22, st22⟩ := getF X9 hx hZ hown (host := "") (Or.inl (hw _ (List.mem_of_getElem? (i := 26) rfl))) Via.refl e9 F13 (g := (mkF m 29 #[.val (.ref a1), .val (.ref a2), .val (.int p3), .val (.ref a3), .val (.long (f (p3).toNatClampNeg)), .second, .val (.int (1 : Int32))] [(.ref a1), (.long (f (p3).toNatClampNeg)), (.int (1 : Int32)), (.ref a3)])) rfl rfl (hb hby d6_29)
    refine Go.st st22 ?_
    show Go p e below _ (T22.setTop (mkF m 32 #[.val (.ref a1), .val (.ref a2), .val (.int p3), .val (.ref a3), .val (.long (f (p3).toNatClampNeg)), .second, .val (.int (1 : Int32))] [(.ref as), (.long (f (p3).toNatClampNeg)), (.int (1 : Int32)), (.ref a3)]))
    refine Go.st (fun _ => XS.iload X22.here hx rfl (hb hby d6_32) rfl) ?_
    show Go p e below _ (T22.setTop (mkF m 34 #[.val (.ref a1), .val (.ref a2), .val (.int p3), .val (.ref a3), .val (.long (f (p3).toNatClampNeg)), .second, .val (.int (1 : Int32))] [(.int (1 : Int32)), (.ref as), (.long (f (p3).toNatClampNeg)), (.int (1 : Int32)), (.ref a3)]))
    obtain ⟨cl23, Ar23, qk23, Sz23, Nn23, Ha23, Ga23⟩ := id V_14
    have hin23 : ¬ ((1 : Int32) < 0 ∨ cl23.slots.size ≤ ((1 : Int32) : Int32).toNatClampNeg) := inb_of Sz23 ⟨by decide, by decide⟩
    refine Go.st (fun _ => X22.iaload hx (j := (1 : Int32)) (v := (.int y1)) (by rw [e22]; exact Ar23.1) (State.isArrayOf_alike hZ.alike Ar23.2.1) Ar23.2.2 hin23 (Has.at Ha23 hin23 rfl) (g := (mkF m 34 #[.val (.ref a1), .val (.ref a2), .val (.int p3), .val (.ref a3), .val (.long (f (p3).toNatClampNeg)), .second, .val (.int (1 : Int32))] [(.int (1 : Int32)), (.ref as), (.long (f (p3).toNatClampNeg)), (.int (1 : Int32)), (.ref a3)])) rfl rfl (hb hby d6_34) _) ?_
    show Go p e below _ (T22.setTop (mkF m 35 #[.val (.ref a1), .val (.ref a2), .val (.int p3), .val (.ref a3), .val (.long (f (p3).toNatClampNeg)), .second, .val (.int (1 : Int32))] [(.int y1), (.long (f (p3).toNatClampNeg)), (.int (1 : Int32)), (.ref a3)]))
    refine Go.st (fun _ => XS.lushr X22.here hx rfl (hb hby d6_35) rfl) ?_
    show Go p e below _ (T22.setTop (mkF m 36 #[.val (.ref a1), .val (.ref a2), .val (.int p3), .val (.ref a3), .val (.long (f (p3).toNatClampNeg)), .second, .val (.int (1 : Int32))] [(.long (((f (p3).toNatClampNeg).toUInt64 >>> (y1 &&& 0x3f).toInt64.toUInt64).toInt64)), (.int (1 : Int32)), (.ref a3)]))
    refine Go.st (fun _ => XS.aloadN X22.here hx rfl (hb hby d6_36) rfl rfl) ?_
    show Go p e below _ (T22.setTop (mkF m 37 #[.val (.ref a1), .val (.ref a2), .val (.int p3), .val (.ref a3), .val (.long (f (p3).toNatClampNeg)), .second, .val (.int (1 : Int32))] [(.ref a1), (.long (((f (p3).toNatClampNeg).toUInt64 >>> (y1 &&& 0x3f).toInt64.toUInt64).toInt64)), (.int (1 : Int32)), (.ref a3)]))
    obtain ⟨T24, X24, e24, st24⟩ := getF X22 hx hZ hown (host := "") (Or.inl (hw _ (List.mem_of_getElem? (i := 28) rfl))) Via.refl e22 F15 (g := (mkF m 37 #[.val (.ref a1), .val (.ref a2), .val (.int p3), .val (.ref a3), .val (.long (f (p3).toNatClampNeg)), .second, .val (.int (1 : Int32))] [(.ref a1), (.long (((f (p3).toNatClampNeg).toUInt64 >>> (y1 &&& 0x3f).toInt64.toUInt64).toInt64)), (.int (1 : Int32)), (.ref a3)])) rfl rfl (hb hby d6_37)
    refine Go.st st24 ?_
    show Go p e below _ (T24.setTop (mkF m 40 #[.val (.ref a1), .val (.ref a2), .val (.int p3), .val (.ref a3), .val (.long (f (p3).toNatClampNeg)), .second, .val (.int (1 : Int32))] [(.ref am), (.long (((f (p3).toNatClampNeg).toUInt64 >>> (y1 &&& 0x3f).toInt64.toUInt64).toInt64)), (.int (1 : Int32)), (.ref a3)]))
    refine Go.st (fun _ => XS.iload X24.here hx rfl (hb hby d6_40) rfl) ?_
    show Go p e below _ (T24.setTop (mkF m 42 #[.val (.ref a1), .val (.ref a2), .val (.int p3), .val (.ref a3), .val (.long (f (p3).toNatClampNeg)), .second, .val (.int (1 : Int32))] [(.int (1 : Int32)), (.ref am), (.long (((f (p3).toNatClampNeg).toUInt64 >>> (y1 &&& 0x3f).toInt64.toUInt64).toInt64)), (.int (1 : Int32)), (.ref a3)]))
    obtain ⟨cl25, Ar25, qk25, Sz25, Nn25, Ha25, Ga25⟩ := id V_16
    have hin25 : ¬ ((1 : Int32) < 0 ∨ cl25.slots.size ≤ ((1 : Int32) : Int32).toNatClampNeg) := inb_of Sz25 ⟨by decide, by decide⟩
    refine Go.st (fun _ => X24.laload hx (j := (1 : Int32)) (v := (.long z1)) (by rw [e24]; exact Ar25.1) (State.isArrayOf_alike hZ.alike Ar25.2.1) Ar25.2.2 hin25 (Has.at Ha25 hin25 rfl) (g := (mkF m 42 #[.val (.ref a1), .val (.ref a2), .val (.int p3), .val (.ref a3), .val (.long (f (p3).toNatClampNeg)), .second, .val (.int (1 : Int32))] [(.int (1 : Int32)), (.ref am), (.long (((f (p3).toNatClampNeg).toUInt64 >>> (y1 &&& 0x3f).toInt64.toUInt64).toInt64)), (.int (1 : Int32)), (.ref a3)])) rfl rfl (hb hby d6_42) _) ?_
    show Go p e below _ (T24.setTop (mkF m 43 #[.val (.ref a1), .val (.ref a2), .val (.int p3), .val (.ref a3), .val (.long (f (p3).toNatClampNeg)), .second, .val (.int (1 : Int32))] [(.long z1), (.long (((f (p3).toNatClampNeg).toUInt64 >>> (y1 &&& 0x3f).toInt64.toUInt64).toInt64)), (.int (1 : Int32)), (.ref a3)]))
    refine Go.st (fun _ => XS.land X24.here hx rfl (hb hby d6_43) rfl) ?_
    show Go p e below _ (T24.setTop (mkF m 44 #[.val (.ref a1), .val (.ref a2), .val (.int p3), .val (.ref a3), .val (.long (f (p3).toNatClampNeg)), .second, .val (.int (1 : Int32))] [(.long ((((f (p3).toNatClampNeg).toUInt64 >>> (y1 &&& 0x3f).toInt64.toUInt64).toInt64) &&& z1)), (.int (1 : Int32)), (.ref a3)]))
    refine Go.st (fun _ => XS.l2i X24.here hx rfl (hb hby d6_44) rfl) ?_
    show Go p e below _ (T24.setTop (mkF m 45 #[.val (.ref a1), .val (.ref a2), .val (.int p3), .val (.ref a3), .val (.long (f (p3).toNatClampNeg)), .second, .val (.int (1 : Int32))] [(.int (((((f (p3).toNatClampNeg).toUInt64 >>> (y1 &&& 0x3f).toInt64.toUInt64).toInt64) &&& z1).toInt32)), (.int (1 : Int32)), (.ref a3)]))
    obtain ⟨cl26, Ar26, qk26, Sz26, Nn26, Ha26, Ga26⟩ := id V_20
    have hin26 : ¬ ((1 : Int32) < 0 ∨ cl26.slots.size ≤ ((1 : Int32) : Int32).toNatClampNeg) := inb_of Sz26 ⟨by decide, by decide⟩
    obtain ⟨T26, h26, X26, e26, W26, st26⟩ := stI X24 hx hZ e24 Ar26 (j := (1 : Int32)) hin26 (g := (mkF m 45 #[.val (.ref a1), .val (.ref a2), .val (.int p3), .val (.ref a3), .val (.long (f (p3).toNatClampNeg)), .second, .val (.int (1 : Int32))] [(.int (((((f (p3).toNatClampNeg).toUInt64 >>> (y1 &&& 0x3f).toInt64.toUInt64).toInt64) &&& z1).toInt32)), (.int (1 : Int32)), (.ref a3)])) rfl rfl (hb hby d6_45)
    refine Go.st st26 ?_
    have O27 : Old Z n0 h26 := O10.wr W26 g3
    have F28 : Fld Z h26 a1 "com/example/gieres/gieres/model/TupleTable" "word" "[I" (.ref aw) := F11.other W26 (Or.inl ne_a1_a3)
    have V_29 : Arv Z h26 aw kw .int (3 : Int32) [(.int x0), (.int x1), (.int x2)] (.int (0 : Int32)) := V_12.other W26 ne_aw_a3
    have F30 : Fld Z h26 a1 "com/example/gieres/gieres/model/TupleTable" "shift" "[I" (.ref as) := F13.other W26 (Or.inl ne_a1_a3)
    have V_31 : Arv Z h26 as ks .int (3 : Int32) [(.int y0), (.int y1), (.int y2)] (.int (0 : Int32)) := V_14.other W26 ne_as_a3
    have F32 : Fld Z h26 a1 "com/example/gieres/gieres/model/TupleTable" "mask" "[J" (.ref am) := F15.other W26 (Or.inl ne_a1_a3)
    have V_33 : Arv Z h26 am km .long (3 : Int32) [(.long z0), (.long z1), (.long z2)] (.long (0 : Int64)) := V_16.other W26 ne_am_a3
    have F34 : Fld Z h26 a1 "com/example/gieres/gieres/model/TupleTable" "width" "I" (.int wd) := F17.other W26 (Or.inl ne_a1_a3)
    have VL35 : LAr Z h26 a2 n f := LAr_other VL18 W26 ne_a2_a3
    have K36 : Keep h0 h26 [a3] := K19.wr W26 (Or.inl (List.mem_of_getElem? (i := 0) rfl))
    have V_37 : Arv Z h26 a3 ki .int (2 : Int32) [(.int (((((f (p3).toNatClampNeg).toUInt64 >>> (y0 &&& 0x3f).toInt64.toUInt64).toInt64) &&& z0).toInt32)), (.int (((((f (p3).toNatClampNeg).toUInt64 >>> (y1 &&& 0x3f).toInt64.toUInt64).toInt64) &&& z1).toInt32))] (.int (0 : Int32)) := Arv.set Ar26 qk26 Sz26 Nn26 Ha26 Ga26 rfl W26 1 rfl (Nat.le_of_ble_eq_true rfl)
    have N26 := Fr.snoc X26 N9 g3
    show Go p e below _ (T26.setTop (mkF m 46 #[.val (.ref a1), .val (.ref a2), .val (.int p3), .val (.ref a3), .val (.long (f (p3).toNatClampNeg)), .second, .val (.int (1 : Int32))] []))
    refine Go.st (fun _ => XS.iinc X26.here hx rfl (hb hby d6_46) rfl (l' := #[.val (.ref a1), .val (.ref a2), .val (.int p3), .val (.ref a3), .val (.long (f (p3).toNatClampNeg)), .second, .val (.int (2 : Int32))]) rfl) ?_
    show Go p e below _ (T26.setTop (mkF m 49 #[.val (.ref a1), .val (.ref a2), .val (.int p3), .val (.ref a3), .val (.long (f (p3).toNatClampNeg)), .second, .val (.int (2 : Int32))] []))
    refine Go.st (fun _ => XS.goto X26.here hx rfl (pc0 := 49) (pc' := 16) rfl (hb hby d6_49) (by decide) (by decide)) ?_
    show Go p e below _ (T26.setTop (mkF m 16 #[.val (.ref a1), .val (.ref a2), .val (.int p3), .val (.ref a3), .val (.long (f (p3).toNatClampNeg)), .second, .val (.int (2 : Int32))] []))
    refine Go.st (fun _ => XS.iload X26.here hx rfl (hb hby d6_16) rfl) ?_
    show Go p e below _ (T26.setTop (mkF m 18 #[.val (.ref a1), .val (.ref a2), .val (.int p3), .val (.ref a3), .val (.long (f (p3).toNatClampNeg)), .second, .val (.int (2 : Int32))] [(.int (2 : Int32))]))
    refine Go.st (fun _ => XS.aloadN X26.here hx rfl (hb hby d6_18) rfl rfl) ?_
    show Go p e below _ (T26.setTop (mkF m 19 #[.val (.ref a1), .val (.ref a2), .val (.int p3), .val (.ref a3), .val (.long (f (p3).toNatClampNeg)), .second, .val (.int (2 : Int32))] [(.ref a3), (.int (2 : Int32))]))
    obtain ⟨cl38, Ar38, qk38, Sz38, Nn38, Ha38, Ga38⟩ := id V_37
    refine Go.st (fun _ => X26.arraylength hx (by rw [e26]; exact Ar38.1) (State.isArrayOf_alike hZ.alike Ar38.2.1) (g := (mkF m 19 #[.val (.ref a1), .val (.ref a2), .val (.int p3), .val (.ref a3), .val (.long (f (p3).toNatClampNeg)), .second, .val (.int (2 : Int32))] [(.ref a3), (.int (2 : Int32))])) rfl rfl (hb hby d6_19) _) ?_
    rw [len_of Sz38 Nn38]
    show Go p e below _ (T26.setTop (mkF m 20 #[.val (.ref a1), .val (.ref a2), .val (.int p3), .val (.ref a3), .val (.long (f (p3).toNatClampNeg)), .second, .val (.int (2 : Int32))] [(.int (2 : Int32)), (.int (2 : Int32))]))
    refine Go.st (fun _ => XS.icmpYes X26.here hx rfl (pc0 := 20) (pc' := 52) rfl (hb hby d6_20) rfl (flt (by decide : ¬ ((2 : Int32) < (2 : Int32)))).2.1 (by decide) (by decide)) ?_
    show Go p e below _ (T26.setTop (mkF m 52 #[.val (.ref a1), .val (.ref a2), .val (.int p3), .val (.ref a3), .val (.long (f (p3).toNatClampNeg)), .second, .val (.int (2 : Int32))] []))
    refine Go.st (fun _ => XS.goto X26.here hx rfl (pc0 := 52) (pc' := 103) rfl (hb hby d6_52) (by decide) (by decide)) ?_
    show Go p e below _ (T26.setTop (mkF m 103 #[.val (.ref a1), .val (.ref a2), .val (.int p3), .val (.ref a3), .val (.long (f (p3).toNatClampNeg)), .second, .val (.int (2 : Int32))] []))
    obtain ⟨r0, r1, r2⟩ := hx1 hc2
    have VE : Arv Z h26 a3 ki .int (2 : Int32) [(.int ((own_get (f (p3 + x0).toNatClampNeg) z0 y0).toInt32)), (.int ((own_get (f (p3 + x1).toNatClampNeg) z1 y1).toInt32))] (.int (0 : Int32)) := by simp only [r0, r1, r2, Int32.add_zero]; exact V_37
    exact goRetV X26 hx hlk hret e26 (hb hby d6_103) (by decide) (by decide) ⟨rfl, N26, K36, VE⟩
  · refine Go.st (fun _ => XS.icmpYes X1.here hx rfl (pc0 := 5) (pc' := 55) rfl (hb hby d6_5) rfl (feq hc2).2 (by decide) (by decide)) ?_
    show Go p e below _ (T1.setTop (mkF m 55 #[.val (.ref a1), .val (.ref a2), .val (.int p3), .val (.ref a3), .unset, .unset, .unset] []))
    refine Go.st (fun _ => XS.iconst X1.here hx rfl (hb hby d6_55)) ?_
    show Go p e below _ (T1.setTop (mkF m 56 #[.val (.ref a1), .val (.ref a2), .val (.int p3), .val (.ref a3), .unset, .unset, .unset] [(.int (0 : Int32))]))
    refine Go.st (fun _ => XS.istore X1.here hx rfl (hb hby d6_56) rfl (l' := #[.val (.ref a1), .val (.ref a2), .val (.int p3), .val (.ref a3), .val (.int (0 : Int32)), .unset, .unset]) rfl) ?_
    show Go p e below _ (T1.setTop (mkF m 58 #[.val (.ref a1), .val (.ref a2), .val (.int p3), .val (.ref a3), .val (.int (0 : Int32)), .unset, .unset] []))
    refine Go.st (fun _ => XS.iload X1.here hx rfl (hb hby d6_58) rfl) ?_
    show Go p e below _ (T1.setTop (mkF m 60 #[.val (.ref a1), .val (.ref a2), .val (.int p3), .val (.ref a3), .val (.int (0 : Int32)), .unset, .unset] [(.int (0 : Int32))]))
    refine Go.st (fun _ => XS.aloadN X1.here hx rfl (hb hby d6_60) rfl rfl) ?_
    show Go p e below _ (T1.setTop (mkF m 61 #[.val (.ref a1), .val (.ref a2), .val (.int p3), .val (.ref a3), .val (.int (0 : Int32)), .unset, .unset] [(.ref a3), (.int (0 : Int32))]))
    obtain ⟨cl39, Ar39, qk39, Sz39, Nn39, Ha39, Ga39⟩ := id VI
    refine Go.st (fun _ => X1.arraylength hx (by rw [e1]; exact Ar39.1) (State.isArrayOf_alike hZ.alike Ar39.2.1) (g := (mkF m 61 #[.val (.ref a1), .val (.ref a2), .val (.int p3), .val (.ref a3), .val (.int (0 : Int32)), .unset, .unset] [(.ref a3), (.int (0 : Int32))])) rfl rfl (hb hby d6_61) _) ?_
    rw [len_of Sz39 Nn39]
    show Go p e below _ (T1.setTop (mkF m 62 #[.val (.ref a1), .val (.ref a2), .val (.int p3), .val (.ref a3), .val (.int (0 : Int32)), .unset, .unset] [(.int (2 : Int32)), (.int (0 : Int32))]))
    refine Go.st (fun _ => XS.icmpNo X1.here hx rfl (hb hby d6_62) rfl (tlt (by decide : (0 : Int32) < (2 : Int32))).2.1) ?_
    show Go p e below _ (T1.setTop (mkF m 65 #[.val (.ref a1), .val (.ref a2), .val (.int p3), .val (.ref a3), .val (.int (0 : Int32)), .unset, .unset] []))
    refine Go.st (fun _ => XS.aloadN X1.here hx rfl (hb hby d6_65) rfl rfl) ?_
    show Go p e below _ (T1.setTop (mkF m 66 #[.val (.ref a1), .val (.ref a2), .val (.int p3), .val (.ref a3), .val (.int (0 : Int32)), .unset, .unset] [(.ref a3)]))
    refine Go.st (fun _ => XS.iload X1.here hx rfl (hb hby d6_66) rfl) ?_
    show Go p e below _ (T1.setTop (mkF m 68 #[.val (.ref a1), .val (.ref a2), .val (.int p3), .val (.ref a3), .val (.int (0 : Int32)), .unset, .unset] [(.int (0 : Int32)), (.ref a3)]))
    refine Go.st (fun _ => XS.aloadN X1.here hx rfl (hb hby d6_68) rfl rfl) ?_
    show Go p e below _ (T1.setTop (mkF m 69 #[.val (.ref a1), .val (.ref a2), .val (.int p3), .val (.ref a3), .val (.int (0 : Int32)), .unset, .unset] [(.ref a2), (.int (0 : Int32)), (.ref a3)]))
    refine Go.st (fun _ => XS.iloadN X1.here hx rfl (hb hby d6_69) rfl) ?_
    show Go p e below _ (T1.setTop (mkF m 70 #[.val (.ref a1), .val (.ref a2), .val (.int p3), .val (.ref a3), .val (.int (0 : Int32)), .unset, .unset] [(.int p3), (.ref a2), (.int (0 : Int32)), (.ref a3)]))
    refine Go.st (fun _ => XS.aloadN X1.here hx rfl (hb hby d6_70) rfl rfl) ?_
    show Go p e below _ (T1.setTop (mkF m 71 #[.val (.ref a1), .val (.ref a2), .val (.int p3), .val (.ref a3), .val (.int (0 : Int32)), .unset, .unset] [(.ref a1), (.int p3), (.ref a2), (.int (0 : Int32)), (.ref a3)]))
    obtain ⟨T40, X40, e40, st40⟩ := getF X1 hx hZ hown (host := "") (Or.inl (hw _ (List.mem_of_getElem? (i := 24) rfl))) Via.refl e1 Fw (g := (mkF m 71 #[.val (.ref a1), .val (.ref a2), .val (.int p3), .val (.ref a3), .val (.int (0 : Int32)), .unset, .unset] [(.ref a1), (.int p3), (.ref a2), (.int (0 : Int32)), (.ref a3)])) rfl rfl (hb hby d6_71)
    refine Go.st st40 ?_
    show Go p e below _ (T40.setTop (mkF m 74 #[.val (.ref a1), .val (.ref a2), .val (.int p3), .val (.ref a3), .val (.int (0 : Int32)), .unset, .unset] [(.ref aw), (.int p3), (.ref a2), (.int (0 : Int32)), (.ref a3)]))
    refine Go.st (fun _ => XS.iload X40.here hx rfl (hb hby d6_74) rfl) ?_
    show Go p e below _ (T40.setTop (mkF m 76 #[.val (.ref a1), .val (.ref a2), .val (.int p3), .val (.ref a3), .val (.int (0 : Int32)), .unset, .unset] [(.int (0 : Int32)), (.ref aw), (.int p3), (.ref a2), (.int (0 : Int32)), (.ref a3)]))
    obtain ⟨cl41, Ar41, qk41, Sz41, Nn41, Ha41, Ga41⟩ := id Vw
    have hin41 : ¬ ((0 : Int32) < 0 ∨ cl41.slots.size ≤ ((0 : Int32) : Int32).toNatClampNeg) := inb_of Sz41 ⟨by decide, by decide⟩
    refine Go.st (fun _ => X40.iaload hx (j := (0 : Int32)) (v := (.int x0)) (by rw [e40]; exact Ar41.1) (State.isArrayOf_alike hZ.alike Ar41.2.1) Ar41.2.2 hin41 (Has.at Ha41 hin41 rfl) (g := (mkF m 76 #[.val (.ref a1), .val (.ref a2), .val (.int p3), .val (.ref a3), .val (.int (0 : Int32)), .unset, .unset] [(.int (0 : Int32)), (.ref aw), (.int p3), (.ref a2), (.int (0 : Int32)), (.ref a3)])) rfl rfl (hb hby d6_76) _) ?_
    show Go p e below _ (T40.setTop (mkF m 77 #[.val (.ref a1), .val (.ref a2), .val (.int p3), .val (.ref a3), .val (.int (0 : Int32)), .unset, .unset] [(.int x0), (.int p3), (.ref a2), (.int (0 : Int32)), (.ref a3)]))
    refine Go.st (fun _ => XS.iadd X40.here hx rfl (hb hby d6_77) rfl) ?_
    show Go p e below _ (T40.setTop (mkF m 78 #[.val (.ref a1), .val (.ref a2), .val (.int p3), .val (.ref a3), .val (.int (0 : Int32)), .unset, .unset] [(.int (p3 + x0)), (.ref a2), (.int (0 : Int32)), (.ref a3)]))
    obtain ⟨cl42, Ar42, hin42, hat42, -⟩ := LAr_in KA (j := (p3 + x0)) hj0_0 hj0_1
    refine Go.st (fun _ => X40.laload hx (j := (p3 + x0)) (v := (.long (f ((p3 + x0)).toNatClampNeg))) (by rw [e40]; exact Ar42.1) (State.isArrayOf_alike hZ.alike Ar42.2.1) Ar42.2.2 hin42 hat42 (g := (mkF m 78 #[.val (.ref a1), .val (.ref a2), .val (.int p3), .val (.ref a3), .val (.int (0 : Int32)), .unset, .unset] [(.int (p3 + x0)), (.ref a2), (.int (0 : Int32)), (.ref a3)])) rfl rfl (hb hby d6_78) _) ?_
    show Go p e below _ (T40.setTop (mkF m 79 #[.val (.ref a1), .val (.ref a2), .val (.int p3), .val (.ref a3), .val (.int (0 : Int32)), .unset, .unset] [(.long (f ((p3 + x0)).toNatClampNeg)), (.int (0 : Int32)), (.ref a3)]))
    refine Go.st (fun _ => XS.aloadN X40.here hx rfl (hb hby d6_79) rfl rfl) ?_
    show Go p e below _ (T40.setTop (mkF m 80 #[.val (.ref a1), .val (.ref a2), .val (.int p3), .val (.ref a3), .val (.int (0 : Int32)), .unset, .unset] [(.ref a1), (.long (f ((p3 + x0)).toNatClampNeg)), (.int (0 : Int32)), (.ref a3)]))
    obtain ⟨T43, X43, e43, st43⟩ := getF X40 hx hZ hown (host := "") (Or.inl (hw _ (List.mem_of_getElem? (i := 26) rfl))) Via.refl e40 Fsh (g := (mkF m 80 #[.val (.ref a1), .val (.ref a2), .val (.int p3), .val (.ref a3), .val (.int (0 : Int32)), .unset, .unset] [(.ref a1), (.long (f ((p3 + x0)).toNatClampNeg)), (.int (0 : Int32)), (.ref a3)])) rfl rfl (hb hby d6_80)
    refine Go.st st43 ?_
    show Go p e below _ (T43.setTop (mkF m 83 #[.val (.ref a1), .val (.ref a2), .val (.int p3), .val (.ref a3), .val (.int (0 : Int32)), .unset, .unset] [(.ref as), (.long (f ((p3 + x0)).toNatClampNeg)), (.int (0 : Int32)), (.ref a3)]))
    refine Go.st (fun _ => XS.iload X43.here hx rfl (hb hby d6_83) rfl) ?_
    show Go p e below _ (T43.setTop (mkF m 85 #[.val (.ref a1), .val (.ref a2), .val (.int p3), .val (.ref a3), .val (.int (0 : Int32)), .unset, .unset] [(.int (0 : Int32)), (.ref as), (.long (f ((p3 + x0)).toNatClampNeg)), (.int (0 : Int32)), (.ref a3)]))
    obtain ⟨cl44, Ar44, qk44, Sz44, Nn44, Ha44, Ga44⟩ := id Vs
    have hin44 : ¬ ((0 : Int32) < 0 ∨ cl44.slots.size ≤ ((0 : Int32) : Int32).toNatClampNeg) := inb_of Sz44 ⟨by decide, by decide⟩
    refine Go.st (fun _ => X43.iaload hx (j := (0 : Int32)) (v := (.int y0)) (by rw [e43]; exact Ar44.1) (State.isArrayOf_alike hZ.alike Ar44.2.1) Ar44.2.2 hin44 (Has.at Ha44 hin44 rfl) (g := (mkF m 85 #[.val (.ref a1), .val (.ref a2), .val (.int p3), .val (.ref a3), .val (.int (0 : Int32)), .unset, .unset] [(.int (0 : Int32)), (.ref as), (.long (f ((p3 + x0)).toNatClampNeg)), (.int (0 : Int32)), (.ref a3)])) rfl rfl (hb hby d6_85) _) ?_
    show Go p e below _ (T43.setTop (mkF m 86 #[.val (.ref a1), .val (.ref a2), .val (.int p3), .val (.ref a3), .val (.int (0 : Int32)), .unset, .unset] [(.int y0), (.long (f ((p3 + x0)).toNatClampNeg)), (.int (0 : Int32)), (.ref a3)]))
    refine Go.st (fun _ => XS.lushr X43.here hx rfl (hb hby d6_86) rfl) ?_
    show Go p e below _ (T43.setTop (mkF m 87 #[.val (.ref a1), .val (.ref a2), .val (.int p3), .val (.ref a3), .val (.int (0 : Int32)), .unset, .unset] [(.long (((f ((p3 + x0)).toNatClampNeg).toUInt64 >>> (y0 &&& 0x3f).toInt64.toUInt64).toInt64)), (.int (0 : Int32)), (.ref a3)]))
    refine Go.st (fun _ => XS.aloadN X43.here hx rfl (hb hby d6_87) rfl rfl) ?_
    show Go p e below _ (T43.setTop (mkF m 88 #[.val (.ref a1), .val (.ref a2), .val (.int p3), .val (.ref a3), .val (.int (0 : Int32)), .unset, .unset] [(.ref a1), (.long (((f ((p3 + x0)).toNatClampNeg).toUInt64 >>> (y0 &&& 0x3f).toInt64.toUInt64).toInt64)), (.int (0 : Int32)), (.ref a3)]))
    obtain ⟨T45, X45, e45, st45⟩ := getF X43 hx hZ hown (host := "") (Or.inl (hw _ (List.mem_of_getElem? (i := 28) rfl))) Via.refl e43 Fm (g := (mkF m 88 #[.val (.ref a1), .val (.ref a2), .val (.int p3), .val (.ref a3), .val (.int (0 : Int32)), .unset, .unset] [(.ref a1), (.long (((f ((p3 + x0)).toNatClampNeg).toUInt64 >>> (y0 &&& 0x3f).toInt64.toUInt64).toInt64)), (.int (0 : Int32)), (.ref a3)])) rfl rfl (hb hby d6_88)
    refine Go.st st45 ?_
    show Go p e below _ (T45.setTop (mkF m 91 #[.val (.ref a1), .val (.ref a2), .val (.int p3), .val (.ref a3), .val (.int (0 : Int32)), .unset, .unset] [(.ref am), (.long (((f ((p3 + x0)).toNatClampNeg).toUInt64 >>> (y0 &&& 0x3f).toInt64.toUInt64).toInt64)), (.int (0 : Int32)), (.ref a3)]))
    refine Go.st (fun _ => XS.iload X45.here hx rfl (hb hby d6_91) rfl) ?_
    show Go p e below _ (T45.setTop (mkF m 93 #[.val (.ref a1), .val (.ref a2), .val (.int p3), .val (.ref a3), .val (.int (0 : Int32)), .unset, .unset] [(.int (0 : Int32)), (.ref am), (.long (((f ((p3 + x0)).toNatClampNeg).toUInt64 >>> (y0 &&& 0x3f).toInt64.toUInt64).toInt64)), (.int (0 : Int32)), (.ref a3)]))
    obtain ⟨cl46, Ar46, qk46, Sz46, Nn46, Ha46, Ga46⟩ := id Vm
    have hin46 : ¬ ((0 : Int32) < 0 ∨ cl46.slots.size ≤ ((0 : Int32) : Int32).toNatClampNeg) := inb_of Sz46 ⟨by decide, by decide⟩
    refine Go.st (fun _ => X45.laload hx (j := (0 : Int32)) (v := (.long z0)) (by rw [e45]; exact Ar46.1) (State.isArrayOf_alike hZ.alike Ar46.2.1) Ar46.2.2 hin46 (Has.at Ha46 hin46 rfl) (g := (mkF m 93 #[.val (.ref a1), .val (.ref a2), .val (.int p3), .val (.ref a3), .val (.int (0 : Int32)), .unset, .unset] [(.int (0 : Int32)), (.ref am), (.long (((f ((p3 + x0)).toNatClampNeg).toUInt64 >>> (y0 &&& 0x3f).toInt64.toUInt64).toInt64)), (.int (0 : Int32)), (.ref a3)])) rfl rfl (hb hby d6_93) _) ?_
    show Go p e below _ (T45.setTop (mkF m 94 #[.val (.ref a1), .val (.ref a2), .val (.int p3), .val (.ref a3), .val (.int (0 : Int32)), .unset, .unset] [(.long z0), (.long (((f ((p3 + x0)).toNatClampNeg).toUInt64 >>> (y0 &&& 0x3f).toInt64.toUInt64).toInt64)), (.int (0 : Int32)), (.ref a3)]))
    refine Go.st (fun _ => XS.land X45.here hx rfl (hb hby d6_94) rfl) ?_
    show Go p e below _ (T45.setTop (mkF m 95 #[.val (.ref a1), .val (.ref a2), .val (.int p3), .val (.ref a3), .val (.int (0 : Int32)), .unset, .unset] [(.long ((((f ((p3 + x0)).toNatClampNeg).toUInt64 >>> (y0 &&& 0x3f).toInt64.toUInt64).toInt64) &&& z0)), (.int (0 : Int32)), (.ref a3)]))
    refine Go.st (fun _ => XS.l2i X45.here hx rfl (hb hby d6_95) rfl) ?_
    show Go p e below _ (T45.setTop (mkF m 96 #[.val (.ref a1), .val (.ref a2), .val (.int p3), .val (.ref a3), .val (.int (0 : Int32)), .unset, .unset] [(.int (((((f ((p3 + x0)).toNatClampNeg).toUInt64 >>> (y0 &&& 0x3f).toInt64.toUInt64).toInt64) &&& z0).toInt32)), (.int (0 : Int32)), (.ref a3)]))
    obtain ⟨cl47, Ar47, qk47, Sz47, Nn47, Ha47, Ga47⟩ := id VI
    have hin47 : ¬ ((0 : Int32) < 0 ∨ cl47.slots.size ≤ ((0 : Int32) : Int32).toNatClampNeg) := inb_of Sz47 ⟨by decide, by decide⟩
    obtain ⟨T47, h47, X47, e47, W47, st47⟩ := stI X45 hx hZ e45 Ar47 (j := (0 : Int32)) hin47 (g := (mkF m 96 #[.val (.ref a1), .val (.ref a2), .val (.int p3), .val (.ref a3), .val (.int (0 : Int32)), .unset, .unset] [(.int (((((f ((p3 + x0)).toNatClampNeg).toUInt64 >>> (y0 &&& 0x3f).toInt64.toUInt64).toInt64) &&& z0).toInt32)), (.int (0 : Int32)), (.ref a3)])) rfl rfl (hb hby d6_96)
    refine Go.st st47 ?_
    have O48 : Old Z n0 h47 := O0.wr W47 g3
    have F49 : Fld Z h47 a1 "com/example/gieres/gieres/model/TupleTable" "word" "[I" (.ref aw) := Fw.other W47 (Or.inl ne_a1_a3)
    have V_50 : Arv Z h47 aw kw .int (3 : Int32) [(.int x0), (.int x1), (.int x2)] (.int (0 : Int32)) := Vw.other W47 ne_aw_a3
    have F51 : Fld Z h47 a1 "com/example/gieres/gieres/model/TupleTable" "shift" "[I" (.ref as) := Fsh.other W47 (Or.inl ne_a1_a3)
    have V_52 : Arv Z h47 as ks .int (3 : Int32) [(.int y0), (.int y1), (.int y2)] (.int (0 : Int32)) := Vs.other W47 ne_as_a3
    have F53 : Fld Z h47 a1 "com/example/gieres/gieres/model/TupleTable" "mask" "[J" (.ref am) := Fm.other W47 (Or.inl ne_a1_a3)
    have V_54 : Arv Z h47 am km .long (3 : Int32) [(.long z0), (.long z1), (.long z2)] (.long (0 : Int64)) := Vm.other W47 ne_am_a3
    have F55 : Fld Z h47 a1 "com/example/gieres/gieres/model/TupleTable" "width" "I" (.int wd) := Fwd.other W47 (Or.inl ne_a1_a3)
    have VL56 : LAr Z h47 a2 n f := LAr_other KA W47 ne_a2_a3
    have K57 : Keep h0 h47 [a3] := (Keep.refl h0 [a3]).wr W47 (Or.inl (List.mem_of_getElem? (i := 0) rfl))
    have V_58 : Arv Z h47 a3 ki .int (2 : Int32) [(.int (((((f ((p3 + x0)).toNatClampNeg).toUInt64 >>> (y0 &&& 0x3f).toInt64.toUInt64).toInt64) &&& z0).toInt32)), (.int u1)] (.int (0 : Int32)) := Arv.set Ar47 qk47 Sz47 Nn47 Ha47 Ga47 rfl W47 0 rfl (Nat.le_of_ble_eq_true rfl)
    have N47 := Fr.snoc X47 N0 g3
    show Go p e below _ (T47.setTop (mkF m 97 #[.val (.ref a1), .val (.ref a2), .val (.int p3), .val (.ref a3), .val (.int (0 : Int32)), .unset, .unset] []))
    refine Go.st (fun _ => XS.iinc X47.here hx rfl (hb hby d6_97) rfl (l' := #[.val (.ref a1), .val (.ref a2), .val (.int p3), .val (.ref a3), .val (.int (1 : Int32)), .unset, .unset]) rfl) ?_
    show Go p e below _ (T47.setTop (mkF m 100 #[.val (.ref a1), .val (.ref a2), .val (.int p3), .val (.ref a3), .val (.int (1 : Int32)), .unset, .unset] []))
    refine Go.st (fun _ => XS.goto X47.here hx rfl (pc0 := 100) (pc' := 58) rfl (hb hby d6_100) (by decide) (by decide)) ?_
    show Go p e below _ (T47.setTop (mkF m 58 #[.val (.ref a1), .val (.ref a2), .val (.int p3), .val (.ref a3), .val (.int (1 : Int32)), .unset, .unset] []))
    refine Go.st (fun _ => XS.iload X47.here hx rfl (hb hby d6_58) rfl) ?_
    show Go p e below _ (T47.setTop (mkF m 60 #[.val (.ref a1), .val (.ref a2), .val (.int p3), .val (.ref a3), .val (.int (1 : Int32)), .unset, .unset] [(.int (1 : Int32))]))
    refine Go.st (fun _ => XS.aloadN X47.here hx rfl (hb hby d6_60) rfl rfl) ?_
    show Go p e below _ (T47.setTop (mkF m 61 #[.val (.ref a1), .val (.ref a2), .val (.int p3), .val (.ref a3), .val (.int (1 : Int32)), .unset, .unset] [(.ref a3), (.int (1 : Int32))]))
    obtain ⟨cl59, Ar59, qk59, Sz59, Nn59, Ha59, Ga59⟩ := id V_58
    refine Go.st (fun _ => X47.arraylength hx (by rw [e47]; exact Ar59.1) (State.isArrayOf_alike hZ.alike Ar59.2.1) (g := (mkF m 61 #[.val (.ref a1), .val (.ref a2), .val (.int p3), .val (.ref a3), .val (.int (1 : Int32)), .unset, .unset] [(.ref a3), (.int (1 : Int32))])) rfl rfl (hb hby d6_61) _) ?_
    rw [len_of Sz59 Nn59]
    show Go p e below _ (T47.setTop (mkF m 62 #[.val (.ref a1), .val (.ref a2), .val (.int p3), .val (.ref a3), .val (.int (1 : Int32)), .unset, .unset] [(.int (2 : Int32)), (.int (1 : Int32))]))
    refine Go.st (fun _ => XS.icmpNo X47.here hx rfl (hb hby d6_62) rfl (tlt (by decide : (1 : Int32) < (2 : Int32))).2.1) ?_
    show Go p e below _ (T47.setTop (mkF m 65 #[.val (.ref a1), .val (.ref a2), .val (.int p3), .val (.ref a3), .val (.int (1 : Int32)), .unset, .unset] []))
    refine Go.st (fun _ => XS.aloadN X47.here hx rfl (hb hby d6_65) rfl rfl) ?_
    show Go p e below _ (T47.setTop (mkF m 66 #[.val (.ref a1), .val (.ref a2), .val (.int p3), .val (.ref a3), .val (.int (1 : Int32)), .unset, .unset] [(.ref a3)]))
    refine Go.st (fun _ => XS.iload X47.here hx rfl (hb hby d6_66) rfl) ?_
    show Go p e below _ (T47.setTop (mkF m 68 #[.val (.ref a1), .val (.ref a2), .val (.int p3), .val (.ref a3), .val (.int (1 : Int32)), .unset, .unset] [(.int (1 : Int32)), (.ref a3)]))
    refine Go.st (fun _ => XS.aloadN X47.here hx rfl (hb hby d6_68) rfl rfl) ?_
    show Go p e below _ (T47.setTop (mkF m 69 #[.val (.ref a1), .val (.ref a2), .val (.int p3), .val (.ref a3), .val (.int (1 : Int32)), .unset, .unset] [(.ref a2), (.int (1 : Int32)), (.ref a3)]))
    refine Go.st (fun _ => XS.iloadN X47.here hx rfl (hb hby d6_69) rfl) ?_
    show Go p e below _ (T47.setTop (mkF m 70 #[.val (.ref a1), .val (.ref a2), .val (.int p3), .val (.ref a3), .val (.int (1 : Int32)), .unset, .unset] [(.int p3), (.ref a2), (.int (1 : Int32)), (.ref a3)]))
    refine Go.st (fun _ => XS.aloadN X47.here hx rfl (hb hby d6_70) rfl rfl) ?_
    show Go p e below _ (T47.setTop (mkF m 71 #[.val (.ref a1), .val (.ref a2), .val (.int p3), .val (.ref a3), .val (.int (1 : Int32)), .unset, .unset] [(.ref a1), (.int p3), (.ref a2), (.int (1 : Int32)), (.ref a3)]))
    obtain ⟨T60, X60, e60, st60⟩ := getF X47 hx hZ hown (host := "") (Or.inl (hw _ (List.mem_of_getElem? (i := 24) rfl))) Via.refl e47 F49 (g := (mkF m 71 #[.val (.ref a1), .val (.ref a2), .val (.int p3), .val (.ref a3), .val (.int (1 : Int32)), .unset, .unset] [(.ref a1), (.int p3), (.ref a2), (.int (1 : Int32)), (.ref a3)])) rfl rfl (hb hby d6_71)
    refine Go.st st60 ?_
    show Go p e below _ (T60.setTop (mkF m 74 #[.val (.ref a1), .val (.ref a2), .val (.int p3), .val (.ref a3), .val (.int (1 : Int32)), .unset, .unset] [(.ref aw), (.int p3), (.ref a2), (.int (1 : Int32)), (.ref a3)]))
    refine Go.st (fun _ => XS.iload X60.here hx rfl (hb hby d6_74) rfl) ?_
    show Go p e below _ (T60.setTop (mkF m 76 #[.val (.ref a1), .val (.ref a2), .val (.int p3), .val (.ref a3), .val (.int (1 : Int32)), .unset, .unset] [(.int (1 : Int32)), (.ref aw), (.int p3), (.ref a2), (.int (1 : Int32)), (.ref a3)]))
    obtain ⟨cl61, Ar61, qk61, Sz61, Nn61, Ha61, Ga61⟩ := id V_50
    have hin61 : ¬ ((1 : Int32) < 0 ∨ cl61.slots.size ≤ ((1 : Int32) : Int32).toNatClampNeg) := inb_of Sz61 ⟨by decide, by decide⟩
    refine Go.st (fun _ => X60.iaload hx (j := (1 : Int32)) (v := (.int x1)) (by rw [e60]; exact Ar61.1) (State.isArrayOf_alike hZ.alike Ar61.2.1) Ar61.2.2 hin61 (Has.at Ha61 hin61 rfl) (g := (mkF m 76 #[.val (.ref a1), .val (.ref a2), .val (.int p3), .val (.ref a3), .val (.int (1 : Int32)), .unset, .unset] [(.int (1 : Int32)), (.ref aw), (.int p3), (.ref a2), (.int (1 : Int32)), (.ref a3)])) rfl rfl (hb hby d6_76) _) ?_
    show Go p e below _ (T60.setTop (mkF m 77 #[.val (.ref a1), .val (.ref a2), .val (.int p3), .val (.ref a3), .val (.int (1 : Int32)), .unset, .unset] [(.int x1), (.int p3), (.ref a2), (.int (1 : Int32)), (.ref a3)]))
    refine Go.st (fun _ => XS.iadd X60.here hx rfl (hb hby d6_77) rfl) ?_
    show Go p e below _ (T60.setTop (mkF m 78 #[.val (.ref a1), .val (.ref a2), .val (.int p3), .val (.ref a3), .val (.int (1 : Int32)), .unset, .unset] [(.int (p3 + x1)), (.ref a2), (.int (1 : Int32)), (.ref a3)]))
    obtain ⟨cl62, Ar62, hin62, hat62, -⟩ := LAr_in VL56 (j := (p3 + x1)) hj1_0 hj1_1
    refine Go.st (fun _ => X60.laload hx (j := (p3 + x1)) (v := (.long (f ((p3 + x1)).toNatClampNeg))) (by rw [e60]; exact Ar62.1) (State.isArrayOf_alike hZ.alike Ar62.2.1) Ar62.2.2 hin62 hat62 (g := (mkF m 78 #[.val (.ref a1), .val (.ref a2), .val (.int p3), .val (.ref a3), .val (.int (1 : Int32)), .unset, .unset] [(.int (p3 + x1)), (.ref a2), (.int (1 : Int32)), (.ref a3)])) rfl rfl (hb hby d6_78) _) ?_
    show Go p e below _ (T60.setTop (mkF m 79 #[.val (.ref a1), .val (.ref a2), .val (.int p3), .val (.ref a3), .val (.int (1 : Int32)), .unset, .unset] [(.long (f ((p3 + x1)).toNatClampNeg)), (.int (1 : Int32)), (.ref a3)]))
    refine Go.st (fun _ => XS.aloadN X60.here hx rfl (hb hby d6_79) rfl rfl) ?_
    show Go p e below _ (T60.setTop (mkF m 80 #[.val (.ref a1), .val (.ref a2), .val (.int p3), .val (.ref a3), .val (.int (1 : Int32)), .unset, .unset] [(.ref a1), (.long (f ((p3 + x1)).toNatClampNeg)), (.int (1 : Int32)), (.ref a3)]))
    obtain ⟨T63, X63, e63, st63⟩ := getF X60 hx hZ hown (host := "") (Or.inl (hw _ (List.mem_of_getElem? (i := 26) rfl))) Via.refl e60 F51 (g := (mkF m 80 #[.val (.ref a1), .val (.ref a2), .val (.int p3), .val (.ref a3), .val (.int (1 : Int32)), .unset, .unset] [(.ref a1), (.long (f ((p3 + x1)).toNatClampNeg)), (.int (1 : Int32)), (.ref a3)])) rfl rfl (hb hby d6_80)
    refine Go.st st63 ?_
    show Go p e below _ (T63.setTop (mkF m 83 #[.val (.ref a1), .val (.ref a2), .val (.int p3), .val (.ref a3), .val (.int (1 : Int32)), .unset, .unset] [(.ref as), (.long (f ((p3 + x1)).toNatClampNeg)), (.int (1 : Int32)), (.ref a3)]))
    refine Go.st (fun _ => XS.iload X63.here hx rfl (hb hby d6_83) rfl) ?_
    show Go p e below _ (T63.setTop (mkF m 85 #[.val (.ref a1), .val (.ref a2), .val (.int p3), .val (.ref a3), .val (.int (1 : Int32)), .unset, .unset] [(.int (1 : Int32)), (.ref as), (.long (f ((p3 + x1)).toNatClampNeg)), (.int (1 : Int32)), (.ref a3)]))
    obtain ⟨cl64, Ar64, qk64, Sz64, Nn64, Ha64, Ga64⟩ := id V_52
    have hin64 : ¬ ((1 : Int32) < 0 ∨ cl64.slots.size ≤ ((1 : Int32) : Int32).toNatClampNeg) := inb_of Sz64 ⟨by decide, by decide⟩
    refine Go.st (fun _ => X63.iaload hx (j := (1 : Int32)) (v := (.int y1)) (by rw [e63]; exact Ar64.1) (State.isArrayOf_alike hZ.alike Ar64.2.1) Ar64.2.2 hin64 (Has.at Ha64 hin64 rfl) (g := (mkF m 85 #[.val (.ref a1), .val (.ref a2), .val (.int p3), .val (.ref a3), .val (.int (1 : Int32)), .unset, .unset] [(.int (1 : Int32)), (.ref as), (.long (f ((p3 + x1)).toNatClampNeg)), (.int (1 : Int32)), (.ref a3)])) rfl rfl (hb hby d6_85) _) ?_
    show Go p e below _ (T63.setTop (mkF m 86 #[.val (.ref a1), .val (.ref a2), .val (.int p3), .val (.ref a3), .val (.int (1 : Int32)), .unset, .unset] [(.int y1), (.long (f ((p3 + x1)).toNatClampNeg)), (.int (1 : Int32)), (.ref a3)]))
    refine Go.st (fun _ => XS.lushr X63.here hx rfl (hb hby d6_86) rfl) ?_
    show Go p e below _ (T63.setTop (mkF m 87 #[.val (.ref a1), .val (.ref a2), .val (.int p3), .val (.ref a3), .val (.int (1 : Int32)), .unset, .unset] [(.long (((f ((p3 + x1)).toNatClampNeg).toUInt64 >>> (y1 &&& 0x3f).toInt64.toUInt64).toInt64)), (.int (1 : Int32)), (.ref a3)]))
    refine Go.st (fun _ => XS.aloadN X63.here hx rfl (hb hby d6_87) rfl rfl) ?_
    show Go p e below _ (T63.setTop (mkF m 88 #[.val (.ref a1), .val (.ref a2), .val (.int p3), .val (.ref a3), .val (.int (1 : Int32)), .unset, .unset] [(.ref a1), (.long (((f ((p3 + x1)).toNatClampNeg).toUInt64 >>> (y1 &&& 0x3f).toInt64.toUInt64).toInt64)), (.int (1 : Int32)), (.ref a3)]))
    obtain ⟨T65, X65, e65, st65⟩ := getF X63 hx hZ hown (host := "") (Or.inl (hw _ (List.mem_of_getElem? (i := 28) rfl))) Via.refl e63 F53 (g := (mkF m 88 #[.val (.ref a1), .val (.ref a2), .val (.int p3), .val (.ref a3), .val (.int (1 : Int32)), .unset, .unset] [(.ref a1), (.long (((f ((p3 + x1)).toNatClampNeg).toUInt64 >>> (y1 &&& 0x3f).toInt64.toUInt64).toInt64)), (.int (1 : Int32)), (.ref a3)])) rfl rfl (hb hby d6_88)
    refine Go.st st65 ?_
    show Go p e below _ (T65.setTop (mkF m 91 #[.val (.ref a1), .val (.ref a2), .val (.int p3), .val (.ref a3), .val (.int (1 : Int32)), .unset, .unset] [(.ref am), (.long (((f ((p3 + x1)).toNatClampNeg).toUInt64 >>> (y1 &&& 0x3f).toInt64.toUInt64).toInt64)), (.int (1 : Int32)), (.ref a3)]))
    refine Go.st (fun _ => XS.iload X65.here hx rfl (hb hby d6_91) rfl) ?_
    show Go p e below _ (T65.setTop (mkF m 93 #[.val (.ref a1), .val (.ref a2), .val (.int p3), .val (.ref a3), .val (.int (1 : Int32)), .unset, .unset] [(.int (1 : Int32)), (.ref am), (.long (((f ((p3 + x1)).toNatClampNeg).toUInt64 >>> (y1 &&& 0x3f).toInt64.toUInt64).toInt64)), (.int (1 : Int32)), (.ref a3)]))
    obtain ⟨cl66, Ar66, qk66, Sz66, Nn66, Ha66, Ga66⟩ := id V_54
    have hin66 : ¬ ((1 : Int32) < 0 ∨ cl66.slots.size ≤ ((1 : Int32) : Int32).toNatClampNeg) := inb_of Sz66 ⟨by decide, by decide⟩
    refine Go.st (fun _ => X65.laload hx (j := (1 : Int32)) (v := (.long z1)) (by rw [e65]; exact Ar66.1) (State.isArrayOf_alike hZ.alike Ar66.2.1) Ar66.2.2 hin66 (Has.at Ha66 hin66 rfl) (g := (mkF m 93 #[.val (.ref a1), .val (.ref a2), .val (.int p3), .val (.ref a3), .val (.int (1 : Int32)), .unset, .unset] [(.int (1 : Int32)), (.ref am), (.long (((f ((p3 + x1)).toNatClampNeg).toUInt64 >>> (y1 &&& 0x3f).toInt64.toUInt64).toInt64)), (.int (1 : Int32)), (.ref a3)])) rfl rfl (hb hby d6_93) _) ?_
    show Go p e below _ (T65.setTop (mkF m 94 #[.val (.ref a1), .val (.ref a2), .val (.int p3), .val (.ref a3), .val (.int (1 : Int32)), .unset, .unset] [(.long z1), (.long (((f ((p3 + x1)).toNatClampNeg).toUInt64 >>> (y1 &&& 0x3f).toInt64.toUInt64).toInt64)), (.int (1 : Int32)), (.ref a3)]))
    refine Go.st (fun _ => XS.land X65.here hx rfl (hb hby d6_94) rfl) ?_
    show Go p e below _ (T65.setTop (mkF m 95 #[.val (.ref a1), .val (.ref a2), .val (.int p3), .val (.ref a3), .val (.int (1 : Int32)), .unset, .unset] [(.long ((((f ((p3 + x1)).toNatClampNeg).toUInt64 >>> (y1 &&& 0x3f).toInt64.toUInt64).toInt64) &&& z1)), (.int (1 : Int32)), (.ref a3)]))
    refine Go.st (fun _ => XS.l2i X65.here hx rfl (hb hby d6_95) rfl) ?_
    show Go p e below _ (T65.setTop (mkF m 96 #[.val (.ref a1), .val (.ref a2), .val (.int p3), .val (.ref a3), .val (.int (1 : Int32)), .unset, .unset] [(.int (((((f ((p3 + x1)).toNatClampNeg).toUInt64 >>> (y1 &&& 0x3f).toInt64.toUInt64).toInt64) &&& z1).toInt32)), (.int (1 : Int32)), (.ref a3)]))
    obtain ⟨cl67, Ar67, qk67, Sz67, Nn67, Ha67, Ga67⟩ := id V_58
    have hin67 : ¬ ((1 : Int32) < 0 ∨ cl67.slots.size ≤ ((1 : Int32) : Int32).toNatClampNeg) := inb_of Sz67 ⟨by decide, by decide⟩
    obtain ⟨T67, h67, X67, e67, W67, st67⟩ := stI X65 hx hZ e65 Ar67 (j := (1 : Int32)) hin67 (g := (mkF m 96 #[.val (.ref a1), .val (.ref a2), .val (.int p3), .val (.ref a3), .val (.int (1 : Int32)), .unset, .unset] [(.int (((((f ((p3 + x1)).toNatClampNeg).toUInt64 >>> (y1 &&& 0x3f).toInt64.toUInt64).toInt64) &&& z1).toInt32)), (.int (1 : Int32)), (.ref a3)])) rfl rfl (hb hby d6_96)
    refine Go.st st67 ?_
    have O68 : Old Z n0 h67 := O48.wr W67 g3
    have F69 : Fld Z h67 a1 "com/example/gieres/gieres/model/TupleTable" "word" "[I" (.ref aw) := F49.other W67 (Or.inl ne_a1_a3)
    have V_70 : Arv Z h67 aw kw .int (3 : Int32) [(.int x0), (.int x1), (.int x2)] (.int (0 : Int32)) := V_50.other W67 ne_aw_a3
    have F71 : Fld Z h67 a1 "com/example/gieres/gieres/model/TupleTable" "shift" "[I" (.ref as) := F51.other W67 (Or.inl ne_a1_a3)
    have V_72 : Arv Z h67 as ks .int (3 : Int32) [(.int y0), (.int y1), (.int y2)] (.int (0 : Int32)) := V_52.other W67 ne_as_a3
    have F73 : Fld Z h67 a1 "com/example/gieres/gieres/model/TupleTable" "mask" "[J" (.ref am) := F53.other W67 (Or.inl ne_a1_a3)
    have V_74 : Arv Z h67 am km .long (3 : Int32) [(.long z0), (.long z1), (.long z2)] (.long (0 : Int64)) := V_54.other W67 ne_am_a3
    have F75 : Fld Z h67 a1 "com/example/gieres/gieres/model/TupleTable" "width" "I" (.int wd) := F55.other W67 (Or.inl ne_a1_a3)
    have VL76 : LAr Z h67 a2 n f := LAr_other VL56 W67 ne_a2_a3
    have K77 : Keep h0 h67 [a3] := K57.wr W67 (Or.inl (List.mem_of_getElem? (i := 0) rfl))
    have V_78 : Arv Z h67 a3 ki .int (2 : Int32) [(.int (((((f ((p3 + x0)).toNatClampNeg).toUInt64 >>> (y0 &&& 0x3f).toInt64.toUInt64).toInt64) &&& z0).toInt32)), (.int (((((f ((p3 + x1)).toNatClampNeg).toUInt64 >>> (y1 &&& 0x3f).toInt64.toUInt64).toInt64) &&& z1).toInt32))] (.int (0 : Int32)) := Arv.set Ar67 qk67 Sz67 Nn67 Ha67 Ga67 rfl W67 1 rfl (Nat.le_of_ble_eq_true rfl)
    have N67 := Fr.snoc X67 N47 g3
    show Go p e below _ (T67.setTop (mkF m 97 #[.val (.ref a1), .val (.ref a2), .val (.int p3), .val (.ref a3), .val (.int (1 : Int32)), .unset, .unset] []))
    refine Go.st (fun _ => XS.iinc X67.here hx rfl (hb hby d6_97) rfl (l' := #[.val (.ref a1), .val (.ref a2), .val (.int p3), .val (.ref a3), .val (.int (2 : Int32)), .unset, .unset]) rfl) ?_
    show Go p e below _ (T67.setTop (mkF m 100 #[.val (.ref a1), .val (.ref a2), .val (.int p3), .val (.ref a3), .val (.int (2 : Int32)), .unset, .unset] []))
    refine Go.st (fun _ => XS.goto X67.here hx rfl (pc0 := 100) (pc' := 58) rfl (hb hby d6_100) (by decide) (by decide)) ?_
    show Go p e below _ (T67.setTop (mkF m 58 #[.val (.ref a1), .val (.ref a2), .val (.int p3), .val (.ref a3), .val (.int (2 : Int32)), .unset, .unset] []))
    refine Go.st (fun _ => XS.iload X67.here hx rfl (hb hby d6_58) rfl) ?_
    show Go p e below _ (T67.setTop (mkF m 60 #[.val (.ref a1), .val (.ref a2), .val (.int p3), .val (.ref a3), .val (.int (2 : Int32)), .unset, .unset] [(.int (2 : Int32))]))
    refine Go.st (fun _ => XS.aloadN X67.here hx rfl (hb hby d6_60) rfl rfl) ?_
    show Go p e below _ (T67.setTop (mkF m 61 #[.val (.ref a1), .val (.ref a2), .val (.int p3), .val (.ref a3), .val (.int (2 : Int32)), .unset, .unset] [(.ref a3), (.int (2 : Int32))]))
    obtain ⟨cl79, Ar79, qk79, Sz79, Nn79, Ha79, Ga79⟩ := id V_78
    refine Go.st (fun _ => X67.arraylength hx (by rw [e67]; exact Ar79.1) (State.isArrayOf_alike hZ.alike Ar79.2.1) (g := (mkF m 61 #[.val (.ref a1), .val (.ref a2), .val (.int p3), .val (.ref a3), .val (.int (2 : Int32)), .unset, .unset] [(.ref a3), (.int (2 : Int32))])) rfl rfl (hb hby d6_61) _) ?_
    rw [len_of Sz79 Nn79]
    show Go p e below _ (T67.setTop (mkF m 62 #[.val (.ref a1), .val (.ref a2), .val (.int p3), .val (.ref a3), .val (.int (2 : Int32)), .unset, .unset] [(.int (2 : Int32)), (.int (2 : Int32))]))
    refine Go.st (fun _ => XS.icmpYes X67.here hx rfl (pc0 := 62) (pc' := 103) rfl (hb hby d6_62) rfl (flt (by decide : ¬ ((2 : Int32) < (2 : Int32)))).2.1 (by decide) (by decide)) ?_
    show Go p e below _ (T67.setTop (mkF m 103 #[.val (.ref a1), .val (.ref a2), .val (.int p3), .val (.ref a3), .val (.int (2 : Int32)), .unset, .unset] []))
    exact goRetV X67 hx hlk hret e67 (hb hby d6_103) (by decide) (by decide) ⟨rfl, N67, K77, V_78⟩
set_option maxRecDepth 65536 in
set_option maxHeartbeats 40000000 in
theorem rmT3 (l : Launch) (Z : State) (a0 : Array Value) (hw : ∀ d ∈ tables_1, d.before a0 Z = true) (ws : List Jvm.Cond) (a1 a2 a3 aw as am : Addr) (kw ks km : ClassId) (x0 x1 x2 y0 y1 y2 : Int32) (z0 z1 z2 : Int64) (n : Nat) (f : Nat → Int64) (ki : ClassId) (p3 wd u0 u1 u2 : Int32) (h0 : Heap) (n0 : Nat) (O0 : Old Z n0 h0) (Fw : Fld Z h0 a1 "com/example/gieres/gieres/model/TupleTable" "word" "[I" (.ref aw)) (Vw : Arv Z h0 aw kw .int (3 : Int32) [(.int x0), (.int x1), (.int x2)] (.int (0 : Int32))) (Fsh : Fld Z h0 a1 "com/example/gieres/gieres/model/TupleTable" "shift" "[I" (.ref as)) (Vs : Arv Z h0 as ks .int (3 : Int32) [(.int y0), (.int y1), (.int y2)] (.int (0 : Int32))) (Fm : Fld Z h0 a1 "com/example/gieres/gieres/model/TupleTable" "mask" "[J" (.ref am)) (Vm : Arv Z h0 am km .long (3 : Int32) [(.long z0), (.long z1), (.long z2)] (.long (0 : Int64))) (Fwd : Fld Z h0 a1 "com/example/gieres/gieres/model/TupleTable" "width" "I" (.int wd)) (KA : LAr Z h0 a2 n f) (VI : Arv Z h0 a3 ki .int (3 : Int32) [(.int u0), (.int u1), (.int u2)] (.int (0 : Int32))) (g3 : n0 ≤ a3) (ne_a1_a3 : a1 ≠ a3) (ne_a2_a3 : a2 ≠ a3) (ne_aw_a3 : aw ≠ a3) (ne_as_a3 : as ≠ a3) (ne_am_a3 : am ≠ a3) (hp0 : 0 ≤ p3.toInt) (hp1 : p3.toInt < n) (hj0_0 : 0 ≤ (p3 + x0).toInt) (hj0_1 : (p3 + x0).toInt < n) (hj1_0 : 0 ≤ (p3 + x1).toInt) (hj1_1 : (p3 + x1).toInt < n) (hj2_0 : 0 ≤ (p3 + x2).toInt) (hj2_1 : (p3 + x2).toInt < n) (hx1 : wd = 1 → x0 = 0 ∧ x1 = 0 ∧ x2 = 0) :
    Ctr l (⟨"com/example/gieres/gieres/model/TupleTable", "states", "([JI[I)V"⟩ : MethodName) prog_137_method_8_code 7 none ws ({ frames := 0, cells := 0, slots := 0, locals := 0 } : Room) #[(.ref a1), (.ref a2), (.int p3), (.ref a3)] Z h0 (fun v h L => v = none ∧ Fr n0 L ∧ Keep h0 h [a3] ∧ Arv Z h a3 ki .int (3 : Int32) [(.int ((own_get (f (p3 + x0).toNatClampNeg) z0 y0).toInt32)), (.int ((own_get (f (p3 + x1).toNatClampNeg) z1 y1).toInt32)), (.int ((own_get (f (p3 + x2).toNatClampNeg) z2 y2).toInt32))] (.int (0 : Int32))) := by
  have ef : ∀ m : MethodId, entryFrame m #[(.ref a1), (.ref a2), (.int p3), (.ref a3)] 7 = mkF m 0 #[.val (.ref a1), .val (.ref a2), .val (.int p3), .val (.ref a3), .unset, .unset, .unset] [] := fun m => by first | (simp [entryFrame, mkF, argsToLocals, Value.category]; done) | rfl
  refine Ctr.of (plainFor_of_name pn_6) ?_
  intro p e s m below meth c s₁ hx hZ hby hml hown0 hnm hret hlk X0 e0
  have hown : s.vm.findClass "com/example/gieres/gieres/model/TupleTable" = some m.cls := hown0
  have N0 := Fr.nil n0
  refine Go.st (fun t k => castTop (ef m) k) ?_
  show Go p e below _ (s₁.setTop (mkF m 0 #[.val (.ref a1), .val (.ref a2), .val (.int p3), .val (.ref a3), .unset, .unset, .unset] []))
  refine Go.st (fun _ => XS.aloadN X0.here hx rfl (hb hby d6_0) rfl rfl) ?_
  show Go p e below _ (s₁.setTop (mkF m 1 #[.val (.ref a1), .val (.ref a2), .val (.int p3), .val (.ref a3), .unset, .unset, .unset] [(.ref a1)]))
  obtain ⟨T1, X1, e1, st1⟩ := getF X0 hx hZ hown (host := "") (Or.inl (hw _ (List.mem_of_getElem? (i := 39) rfl))) Via.refl e0 Fwd (g := (mkF m 1 #[.val (.ref a1), .val (.ref a2), .val (.int p3), .val (.ref a3), .unset, .unset, .unset] [(.ref a1)])) rfl rfl (hb hby d6_1)
  refine Go.st st1 ?_
  show Go p e below _ (T1.setTop (mkF m 4 #[.val (.ref a1), .val (.ref a2), .val (.int p3), .val (.ref a3), .unset, .unset, .unset] [(.int wd)]))
  refine Go.st (fun _ => XS.iconst X1.here hx rfl (hb hby d6_4)) ?_
  show Go p e below _ (T1.setTop (mkF m 5 #[.val (.ref a1), .val (.ref a2), .val (.int p3), .val (.ref a3), .unset, .unset, .unset] [(.int (1 : Int32)), (.int wd)]))
  by_cases hc2 : wd = (1 : Int32)
  · refine Go.st (fun _ => XS.icmpNo X1.here hx rfl (hb hby d6_5) rfl (teq hc2).2) ?_
    show Go p e below _ (T1.setTop (mkF m 8 #[.val (.ref a1), .val (.ref a2), .val (.int p3), .val (.ref a3), .unset, .unset, .unset] []))
    refine Go.st (fun _ => XS.aloadN X1.here hx rfl (hb hby d6_8) rfl rfl) ?_
    show Go p e below _ (T1.setTop (mkF m 9 #[.val (.ref a1), .val (.ref a2), .val (.int p3), .val (.ref a3), .unset, .unset, .unset] [(.ref a2)]))
    refine Go.st (fun _ => XS.iloadN X1.here hx rfl (hb hby d6_9) rfl) ?_
    show Go p e below _ (T1.setTop (mkF m 10 #[.val (.ref a1), .val (.ref a2), .val (.int p3), .val (.ref a3), .unset, .unset, .unset] [(.int p3), (.ref a2)]))
    obtain ⟨cl3, Ar3, hin3, hat3, -⟩ := LAr_in KA (j := p3) hp0 hp1
    refine Go.st (fun _ => X1.laload hx (j := p3) (v := (.long (f (p3).toNatClampNeg))) (by rw [e1]; exact Ar3.1) (State.isArrayOf_alike hZ.alike Ar3.2.1) Ar3.2.2 hin3 hat3 (g := (mkF m 10 #[.val (.ref a1), .val (.ref a2), .val (.int p3), .val (.ref a3), .unset, .unset, .unset] [(.int p3), (.ref a2)])) rfl rfl (hb hby d6_10) _) ?_
    show Go p e below _ (T1.setTop (mkF m 11 #[.val (.ref a1), .val (.ref a2), .val (.int p3), .val (.ref a3), .unset, .unset, .unset] [(.long (f (p3).toNatClampNeg))]))
    refine Go.st (fun _ => XS.lstore X1.here hx rfl (hb hby d6_11) rfl (l' := #[.val (.ref a1), .val (.ref a2), .val (.int p3), .val (.ref a3), .val (.long (f (p3).toNatClampNeg)), .second, .unset]) rfl) ?_
    show Go p e below _ (T1.setTop (mkF m 13 #[.val (.ref a1), .val (.ref a2), .val (.int p3), .val (.ref a3), .val (.long (f (p3).toNatClampNeg)), .second, .unset] []))
    refine Go.st (fun _ => XS.iconst X1.here hx rfl (hb hby d6_13)) ?_
    show Go p e below _ (T1.setTop (mkF m 14 #[.val (.ref a1), .val (.ref a2), .val (.int p3), .val (.ref a3), .val (.long (f (p3).toNatClampNeg)), .second, .unset] [(.int (0 : Int32))]))
    refine Go.st (fun _ => XS.istore X1.here hx rfl (hb hby d6_14) rfl (l' := #[.val (.ref a1), .val (.ref a2), .val (.int p3), .val (.ref a3), .val (.long (f (p3).toNatClampNeg)), .second, .val (.int (0 : Int32))]) rfl) ?_
    show Go p e below _ (T1.setTop (mkF m 16 #[.val (.ref a1), .val (.ref a2), .val (.int p3), .val (.ref a3), .val (.long (f (p3).toNatClampNeg)), .second, .val (.int (0 : Int32))] []))
    refine Go.st (fun _ => XS.iload X1.here hx rfl (hb hby d6_16) rfl) ?_
    show Go p e below _ (T1.setTop (mkF m 18 #[.val (.ref a1), .val (.ref a2), .val (.int p3), .val (.ref a3), .val (.long (f (p3).toNatClampNeg)), .second, .val (.int (0 : Int32))] [(.int (0 : Int32))]))
    refine Go.st (fun _ => XS.aloadN X1.here hx rfl (hb hby d6_18) rfl rfl) ?_
    show Go p e below _ (T1.setTop (mkF m 19 #[.val (.ref a1), .val (.ref a2), .val (.int p3), .val (.ref a3), .val (.long (f (p3).toNatClampNeg)), .second, .val (.int (0 : Int32))] [(.ref a3), (.int (0 : Int32))]))
    obtain ⟨cl4, Ar4, qk4, Sz4, Nn4, Ha4, Ga4⟩ := id VI
    refine Go.st (fun _ => X1.arraylength hx (by rw [e1]; exact Ar4.1) (State.isArrayOf_alike hZ.alike Ar4.2.1) (g := (mkF m 19 #[.val (.ref a1), .val (.ref a2), .val (.int p3), .val (.ref a3), .val (.long (f (p3).toNatClampNeg)), .second, .val (.int (0 : Int32))] [(.ref a3), (.int (0 : Int32))])) rfl rfl (hb hby d6_19) _) ?_
    rw [len_of Sz4 Nn4]
    show Go p e below _ (T1.setTop (mkF m 20 #[.val (.ref a1), .val (.ref a2), .val (.int p3), .val (.ref a3), .val (.long (f (p3).toNatClampNeg)), .second, .val (.int (0 : Int32))] [(.int (3 : Int32)), (.int (0 : Int32))]))
    refine Go.st (fun _ => XS.icmpNo X1.here hx rfl (hb hby d6_20) rfl (tlt (by decide : (0 : Int32) < (3 : Int32))).2.1) ?_
    show Go p e below _ (T1.setTop (mkF m 23 #[.val (.ref a1), .val (.ref a2), .val (.int p3), .val (.ref a3), .val (.long (f (p3).toNatClampNeg)), .second, .val (.int (0 : Int32))] []))
    refine Go.st (fun _ => XS.aloadN X1.here hx rfl (hb hby d6_23) rfl rfl) ?_
    show Go p e below _ (T1.setTop (mkF m 24 #[.val (.ref a1), .val (.ref a2), .val (.int p3), .val (.ref a3), .val (.long (f (p3).toNatClampNeg)), .second, .val (.int (0 : Int32))] [(.ref a3)]))
    refine Go.st (fun _ => XS.iload X1.here hx rfl (hb hby d6_24) rfl) ?_
    show Go p e below _ (T1.setTop (mkF m 26 #[.val (.ref a1), .val (.ref a2), .val (.int p3), .val (.ref a3), .val (.long (f (p3).toNatClampNeg)), .second, .val (.int (0 : Int32))] [(.int (0 : Int32)), (.ref a3)]))
    refine Go.st (fun _ => XS.lload X1.here hx rfl (hb hby d6_26) rfl) ?_
    show Go p e below _ (T1.setTop (mkF m 28 #[.val (.ref a1), .val (.ref a2), .val (.int p3), .val (.ref a3), .val (.long (f (p3).toNatClampNeg)), .second, .val (.int (0 : Int32))] [(.long (f (p3).toNatClampNeg)), (.int (0 : Int32)), (.ref a3)]))
    refine Go.st (fun _ => XS.aloadN X1.here hx rfl (hb hby d6_28) rfl rfl) ?_
    show Go p e below _ (T1.setTop (mkF m 29 #[.val (.ref a1), .val (.ref a2), .val (.int p3), .val (.ref a3), .val (.long (f (p3).toNatClampNeg)), .second, .val (.int (0 : Int32))] [(.ref a1), (.long (f (p3).toNatClampNeg)), (.int (0 : Int32)), (.ref a3)]))
    obtain ⟨T5, X5, e5, st5⟩ := getF X1 hx hZ hown (host := "") (Or.inl (hw _ (List.mem_of_getElem? (i := 26) rfl))) Via.refl e1 Fsh (g := (mkF m 29 #[.val (.ref a1), .val (.ref a2), .val (.int p3), .val (.ref a3), .val (.long (f (p3).toNatClampNeg)), .second, .val (.int (0 : Int32))] [(.ref a1), (.long (f (p3).toNatClampNeg)), (.int (0 : Int32)), (.ref a3)])) rfl rfl (hb hby d6_29)
    refine Go.st st5 ?_
    show Go p e below _ (T5.setTop (mkF m 32 #[.val (.ref a1), .val (.ref a2), .val (.int p3), .val (.ref a3), .val (.long (f (p3).toNatClampNeg)), .second, .val (.int (0 : Int32))] [(.ref as), (.long (f (p3).toNatClampNeg)), (.int (0 : Int32)), (.ref a3)]))
    refine Go.st (fun _ => XS.iload X5.here hx rfl (hb hby d6_32) rfl) ?_
    show Go p e below _ (T5.setTop (mkF m 34 #[.val (.ref a1), .val (.ref a2), .val (.int p3), .val (.ref a3), .val (.long (f (p3).toNatClampNeg)), .second, .val (.int (0 : Int32))] [(.int (0 : Int32)), (.ref as), (.long (f (p3).toNatClampNeg)), (.int (0 : Int32)), (.ref a3)]))
    obtain ⟨cl6, Ar6, qk6, Sz6, Nn6, Ha6, Ga6⟩ := id Vs
    have hin6 : ¬ ((0 : Int32) < 0 ∨ cl6.slots.size ≤ ((0 : Int32) : Int32).toNatClampNeg) := inb_of Sz6 ⟨by decide, by decide⟩
    refine Go.st (fun _ => X5.iaload hx (j := (0 : Int32)) (v := (.int y0)) (by rw [e5]; exact Ar6.1) (State.isArrayOf_alike hZ.alike Ar6.2.1) Ar6.2.2 hin6 (Has.at Ha6 hin6 rfl) (g := (mkF m 34 #[.val (.ref a1), .val (.ref a2), .val (.int p3), .val (.ref a3), .val (.long (f (p3).toNatClampNeg)), .second, .val (.int (0 : Int32))] [(.int (0 : Int32)), (.ref as), (.long (f (p3).toNatClampNeg)), (.int (0 : Int32)), (.ref a3)])) rfl rfl (hb hby d6_34) _) ?_
    show Go p e below _ (T5.setTop (mkF m 35 #[.val (.ref a1), .val (.ref a2), .val (.int p3), .val (.ref a3), .val (.long (f (p3).toNatClampNeg)), .second, .val (.int (0 : Int32))] [(.int y0), (.long (f (p3).toNatClampNeg)), (.int (0 : Int32)), (.ref a3)]))
    refine Go.st (fun _ => XS.lushr X5.here hx rfl (hb hby d6_35) rfl) ?_
    show Go p e below _ (T5.setTop (mkF m 36 #[.val (.ref a1), .val (.ref a2), .val (.int p3), .val (.ref a3), .val (.long (f (p3).toNatClampNeg)), .second, .val (.int (0 : Int32))] [(.long (((f (p3).toNatClampNeg).toUInt64 >>> (y0 &&& 0x3f).toInt64.toUInt64).toInt64)), (.int (0 : Int32)), (.ref a3)]))
    refine Go.st (fun _ => XS.aloadN X5.here hx rfl (hb hby d6_36) rfl rfl) ?_
    show Go p e below _ (T5.setTop (mkF m 37 #[.val (.ref a1), .val (.ref a2), .val (.int p3), .val (.ref a3), .val (.long (f (p3).toNatClampNeg)), .second, .val (.int (0 : Int32))] [(.ref a1), (.long (((f (p3).toNatClampNeg).toUInt64 >>> (y0 &&& 0x3f).toInt64.toUInt64).toInt64)), (.int (0 : Int32)), (.ref a3)]))
    obtain ⟨T7, X7, e7, st7⟩ := getF X5 hx hZ hown (host := "") (Or.inl (hw _ (List.mem_of_getElem? (i := 28) rfl))) Via.refl e5 Fm (g := (mkF m 37 #[.val (.ref a1), .val (.ref a2), .val (.int p3), .val (.ref a3), .val (.long (f (p3).toNatClampNeg)), .second, .val (.int (0 : Int32))] [(.ref a1), (.long (((f (p3).toNatClampNeg).toUInt64 >>> (y0 &&& 0x3f).toInt64.toUInt64).toInt64)), (.int (0 : Int32)), (.ref a3)])) rfl rfl (hb hby d6_37)
    refine Go.st st7 ?_
    show Go p e below _ (T7.setTop (mkF m 40 #[.val (.ref a1), .val (.ref a2), .val (.int p3), .val (.ref a3), .val (.long (f (p3).toNatClampNeg)), .second, .val (.int (0 : Int32))] [(.ref am), (.long (((f (p3).toNatClampNeg).toUInt64 >>> (y0 &&& 0x3f).toInt64.toUInt64).toInt64)), (.int (0 : Int32)), (.ref a3)]))
    refine Go.st (fun _ => XS.iload X7.here hx rfl (hb hby d6_40) rfl) ?_
    show Go p e below _ (T7.setTop (mkF m 42 #[.val (.ref a1), .val (.ref a2), .val (.int p3), .val (.ref a3), .val (.long (f (p3).toNatClampNeg)), .second, .val (.int (0 : Int32))] [(.int (0 : Int32)), (.ref am), (.long (((f (p3).toNatClampNeg).toUInt64 >>> (y0 &&& 0x3f).toInt64.toUInt64).toInt64)), (.int (0 : Int32)), (.ref a3)]))
    obtain ⟨cl8, Ar8, qk8, Sz8, Nn8, Ha8, Ga8⟩ := id Vm
    have hin8 : ¬ ((0 : Int32) < 0 ∨ cl8.slots.size ≤ ((0 : Int32) : Int32).toNatClampNeg) := inb_of Sz8 ⟨by decide, by decide⟩
    refine Go.st (fun _ => X7.laload hx (j := (0 : Int32)) (v := (.long z0)) (by rw [e7]; exact Ar8.1) (State.isArrayOf_alike hZ.alike Ar8.2.1) Ar8.2.2 hin8 (Has.at Ha8 hin8 rfl) (g := (mkF m 42 #[.val (.ref a1), .val (.ref a2), .val (.int p3), .val (.ref a3), .val (.long (f (p3).toNatClampNeg)), .second, .val (.int (0 : Int32))] [(.int (0 : Int32)), (.ref am), (.long (((f (p3).toNatClampNeg).toUInt64 >>> (y0 &&& 0x3f).toInt64.toUInt64).toInt64)), (.int (0 : Int32)), (.ref a3)])) rfl rfl (hb hby d6_42) _) ?_
    show Go p e below _ (T7.setTop (mkF m 43 #[.val (.ref a1), .val (.ref a2), .val (.int p3), .val (.ref a3), .val (.long (f (p3).toNatClampNeg)), .second, .val (.int (0 : Int32))] [(.long z0), (.long (((f (p3).toNatClampNeg).toUInt64 >>> (y0 &&& 0x3f).toInt64.toUInt64).toInt64)), (.int (0 : Int32)), (.ref a3)]))
    refine Go.st (fun _ => XS.land X7.here hx rfl (hb hby d6_43) rfl) ?_
    show Go p e below _ (T7.setTop (mkF m 44 #[.val (.ref a1), .val (.ref a2), .val (.int p3), .val (.ref a3), .val (.long (f (p3).toNatClampNeg)), .second, .val (.int (0 : Int32))] [(.long ((((f (p3).toNatClampNeg).toUInt64 >>> (y0 &&& 0x3f).toInt64.toUInt64).toInt64) &&& z0)), (.int (0 : Int32)), (.ref a3)]))
    refine Go.st (fun _ => XS.l2i X7.here hx rfl (hb hby d6_44) rfl) ?_
    show Go p e below _ (T7.setTop (mkF m 45 #[.val (.ref a1), .val (.ref a2), .val (.int p3), .val (.ref a3), .val (.long (f (p3).toNatClampNeg)), .second, .val (.int (0 : Int32))] [(.int (((((f (p3).toNatClampNeg).toUInt64 >>> (y0 &&& 0x3f).toInt64.toUInt64).toInt64) &&& z0).toInt32)), (.int (0 : Int32)), (.ref a3)]))
    obtain ⟨cl9, Ar9, qk9, Sz9, Nn9, Ha9, Ga9⟩ := id VI
    have hin9 : ¬ ((0 : Int32) < 0 ∨ cl9.slots.size ≤ ((0 : Int32) : Int32).toNatClampNeg) := inb_of Sz9 ⟨by decide, by decide⟩
    obtain ⟨T9, h9, X9, e9, W9, st9⟩ := stI X7 hx hZ e7 Ar9 (j := (0 : Int32)) hin9 (g := (mkF m 45 #[.val (.ref a1), .val (.ref a2), .val (.int p3), .val (.ref a3), .val (.long (f (p3).toNatClampNeg)), .second, .val (.int (0 : Int32))] [(.int (((((f (p3).toNatClampNeg).toUInt64 >>> (y0 &&& 0x3f).toInt64.toUInt64).toInt64) &&& z0).toInt32)), (.int (0 : Int32)), (.ref a3)])) rfl rfl (hb hby d6_45)
    refine Go.st st9 ?_
    have O10 : Old Z n0 h9 := O0.wr W9 g3
    have F11 : Fld Z h9 a1 "com/example/gieres/gieres/model/TupleTable" "word" "[I" (.ref aw) := Fw.other W9 (Or.inl ne_a1_a3)
    have V_12 : Arv Z h9 aw kw .int (3 : Int32) [(.int x0), (.int x1), (.int x2)] (.int (0 : Int32)) := Vw.other W9 ne_aw_a3
    have F13 : Fld Z h9 a1 "com/example/gieres/gieres/model/TupleTable" "shift" "[I" (.ref as) := Fsh.other W9 (Or.inl ne_a1_a3)
    have V_14 : Arv Z h9 as ks .int (3 : Int32) [(.int y0), (.int y1), (.int y2)] (.int (0 : Int32)) := Vs.other W9 ne_as_a3
    have F15 : Fld Z h9 a1 "com/example/gieres/gieres/model/TupleTable" "mask" "[J" (.ref am) := Fm.other W9 (Or.inl ne_a1_a3)
    have V_16 : Arv Z h9 am km .long (3 : Int32) [(.long z0), (.long z1), (.long z2)] (.long (0 : Int64)) := Vm.other W9 ne_am_a3
    have F17 : Fld Z h9 a1 "com/example/gieres/gieres/model/TupleTable" "width" "I" (.int wd) := Fwd.other W9 (Or.inl ne_a1_a3)
    have VL18 : LAr Z h9 a2 n f := LAr_other KA W9 ne_a2_a3
    have K19 : Keep h0 h9 [a3] := (Keep.refl h0 [a3]).wr W9 (Or.inl (List.mem_of_getElem? (i := 0) rfl))
    have V_20 : Arv Z h9 a3 ki .int (3 : Int32) [(.int (((((f (p3).toNatClampNeg).toUInt64 >>> (y0 &&& 0x3f).toInt64.toUInt64).toInt64) &&& z0).toInt32)), (.int u1), (.int u2)] (.int (0 : Int32)) := Arv.set Ar9 qk9 Sz9 Nn9 Ha9 Ga9 rfl W9 0 rfl (Nat.le_of_ble_eq_true rfl)
    have N9 := Fr.snoc X9 N0 g3
    show Go p e below _ (T9.setTop (mkF m 46 #[.val (.ref a1), .val (.ref a2), .val (.int p3), .val (.ref a3), .val (.long (f (p3).toNatClampNeg)), .second, .val (.int (0 : Int32))] []))
    refine Go.st (fun _ => XS.iinc X9.here hx rfl (hb hby d6_46) rfl (l' := #[.val (.ref a1), .val (.ref a2), .val (.int p3), .val (.ref a3), .val (.long (f (p3).toNatClampNeg)), .second, .val (.int (1 : Int32))]) rfl) ?_
    show Go p e below _ (T9.setTop (mkF m 49 #[.val (.ref a1), .val (.ref a2), .val (.int p3), .val (.ref a3), .val (.long (f (p3).toNatClampNeg)), .second, .val (.int (1 : Int32))] []))
    refine Go.st (fun _ => XS.goto X9.here hx rfl (pc0 := 49) (pc' := 16) rfl (hb hby d6_49) (by decide) (by decide)) ?_
    show Go p e below _ (T9.setTop (mkF m 16 #[.val (.ref a1), .val (.ref a2), .val (.int p3), .val (.ref a3), .val (.long (f (p3).toNatClampNeg)), .second, .val (.int (1 : Int32))] []))
    refine Go.st (fun _ => XS.iload X9.here hx rfl (hb hby d6_16) rfl) ?_
    show Go p e below _ (T9.setTop (mkF m 18 #[.val (.ref a1), .val (.ref a2), .val (.int p3), .val (.ref a3), .val (.long (f (p3).toNatClampNeg)), .second, .val (.int (1 : Int32))] [(.int (1 : Int32))]))
    refine Go.st (fun _ => XS.aloadN X9.here hx rfl (hb hby d6_18) rfl rfl) ?_
    show Go p e below _ (T9.setTop (mkF m 19 #[.val (.ref a1), .val (.ref a2), .val (.int p3), .val (.ref a3), .val (.long (f (p3).toNatClampNeg)), .second, .val (.int (1 : Int32))] [(.ref a3), (.int (1 : Int32))]))
    obtain ⟨cl21, Ar21, qk21, Sz21, Nn21, Ha21, Ga21⟩ := id V_20
    refine Go.st (fun _ => X9.arraylength hx (by rw [e9]; exact Ar21.1) (State.isArrayOf_alike hZ.alike Ar21.2.1) (g := (mkF m 19 #[.val (.ref a1), .val (.ref a2), .val (.int p3), .val (.ref a3), .val (.long (f (p3).toNatClampNeg)), .second, .val (.int (1 : Int32))] [(.ref a3), (.int (1 : Int32))])) rfl rfl (hb hby d6_19) _) ?_
    rw [len_of Sz21 Nn21]
    show Go p e below _ (T9.setTop (mkF m 20 #[.val (.ref a1), .val (.ref a2), .val (.int p3), .val (.ref a3), .val (.long (f (p3).toNatClampNeg)), .second, .val (.int (1 : Int32))] [(.int (3 : Int32)), (.int (1 : Int32))]))
    refine Go.st (fun _ => XS.icmpNo X9.here hx rfl (hb hby d6_20) rfl (tlt (by decide : (1 : Int32) < (3 : Int32))).2.1) ?_
    show Go p e below _ (T9.setTop (mkF m 23 #[.val (.ref a1), .val (.ref a2), .val (.int p3), .val (.ref a3), .val (.long (f (p3).toNatClampNeg)), .second, .val (.int (1 : Int32))] []))
    refine Go.st (fun _ => XS.aloadN X9.here hx rfl (hb hby d6_23) rfl rfl) ?_
    show Go p e below _ (T9.setTop (mkF m 24 #[.val (.ref a1), .val (.ref a2), .val (.int p3), .val (.ref a3), .val (.long (f (p3).toNatClampNeg)), .second, .val (.int (1 : Int32))] [(.ref a3)]))
    refine Go.st (fun _ => XS.iload X9.here hx rfl (hb hby d6_24) rfl) ?_
    show Go p e below _ (T9.setTop (mkF m 26 #[.val (.ref a1), .val (.ref a2), .val (.int p3), .val (.ref a3), .val (.long (f (p3).toNatClampNeg)), .second, .val (.int (1 : Int32))] [(.int (1 : Int32)), (.ref a3)]))
    refine Go.st (fun _ => XS.lload X9.here hx rfl (hb hby d6_26) rfl) ?_
    show Go p e below _ (T9.setTop (mkF m 28 #[.val (.ref a1), .val (.ref a2), .val (.int p3), .val (.ref a3), .val (.long (f (p3).toNatClampNeg)), .second, .val (.int (1 : Int32))] [(.long (f (p3).toNatClampNeg)), (.int (1 : Int32)), (.ref a3)]))
    refine Go.st (fun _ => XS.aloadN X9.here hx rfl (hb hby d6_28) rfl rfl) ?_
    show Go p e below _ (T9.setTop (mkF m 29 #[.val (.ref a1), .val (.ref a2), .val (.int p3), .val (.ref a3), .val (.long (f (p3).toNatClampNeg)), .second, .val (.int (1 : Int32))] [(.ref a1), (.long (f (p3).toNatClampNeg)), (.int (1 : Int32)), (.ref a3)]))
    obtain ⟨T22, X22, e22, st22⟩ := getF X9 hx hZ hown (host := "") (Or.inl (hw _ (List.mem_of_getElem? (i := 26) rfl))) Via.refl e9 F13 (g := (mkF m 29 #[.val (.ref a1), .val (.ref a2), .val (.int p3), .val (.ref a3), .val (.long (f (p3).toNatClampNeg)), .second, .val (.int (1 : Int32))] [(.ref a1), (.long (f (p3).toNatClampNeg)), (.int (1 : Int32)), (.ref a3)])) rfl rfl (hb hby d6_29)
    refine Go.st st22 ?_
    show Go p e below _ (T22.setTop (mkF m 32 #[.val (.ref a1), .val (.ref a2), .val (.int p3), .val (.ref a3), .val (.long (f (p3).toNatClampNeg)), .second, .val (.int (1 : Int32))] [(.ref as), (.long (f (p3).toNatClampNeg)), (.int (1 : Int32)), (.ref a3)]))
    refine Go.st (fun _ => XS.iload X22.here hx rfl (hb hby d6_32) rfl) ?_
    show Go p e below _ (T22.setTop (mkF m 34 #[.val (.ref a1), .val (.ref a2), .val (.int p3), .val (.ref a3), .val (.long (f (p3).toNatClampNeg)), .second, .val (.int (1 : Int32))] [(.int (1 : Int32)), (.ref as), (.long (f (p3).toNatClampNeg)), (.int (1 : Int32)), (.ref a3)]))
    obtain ⟨cl23, Ar23, qk23, Sz23, Nn23, Ha23, Ga23⟩ := id V_14
    have hin23 : ¬ ((1 : Int32) < 0 ∨ cl23.slots.size ≤ ((1 : Int32) : Int32).toNatClampNeg) := inb_of Sz23 ⟨by decide, by decide⟩
    refine Go.st (fun _ => X22.iaload hx (j := (1 : Int32)) (v := (.int y1)) (by rw [e22]; exact Ar23.1) (State.isArrayOf_alike hZ.alike Ar23.2.1) Ar23.2.2 hin23 (Has.at Ha23 hin23 rfl) (g := (mkF m 34 #[.val (.ref a1), .val (.ref a2), .val (.int p3), .val (.ref a3), .val (.long (f (p3).toNatClampNeg)), .second, .val (.int (1 : Int32))] [(.int (1 : Int32)), (.ref as), (.long (f (p3).toNatClampNeg)), (.int (1 : Int32)), (.ref a3)])) rfl rfl (hb hby d6_34) _) ?_
    show Go p e below _ (T22.setTop (mkF m 35 #[.val (.ref a1), .val (.ref a2), .val (.int p3), .val (.ref a3), .val (.long (f (p3).toNatClampNeg)), .second, .val (.int (1 : Int32))] [(.int y1), (.long (f (p3).toNatClampNeg)), (.int (1 : Int32)), (.ref a3)]))
    refine Go.st (fun _ => XS.lushr X22.here hx rfl (hb hby d6_35) rfl) ?_
    show Go p e below _ (T22.setTop (mkF m 36 #[.val (.ref a1), .val (.ref a2), .val (.int p3), .val (.ref a3), .val (.long (f (p3).toNatClampNeg)), .second, .val (.int (1 : Int32))] [(.long (((f (p3).toNatClampNeg).toUInt64 >>> (y1 &&& 0x3f).toInt64.toUInt64).toInt64)), (.int (1 : Int32)), (.ref a3)]))
    refine Go.st (fun _ => XS.aloadN X22.here hx rfl (hb hby d6_36) rfl rfl) ?_
    show Go p e below _ (T22.setTop (mkF m 37 #[.val (.ref a1), .val (.ref a2), .val (.int p3), .val (.ref a3), .val (.long (f (p3).toNatClampNeg)), .second, .val (.int (1 : Int32))] [(.ref a1), (.long (((f (p3).toNatClampNeg).toUInt64 >>> (y1 &&& 0x3f).toInt64.toUInt64).toInt64)), (.int (1 : Int32)), (.ref a3)]))
    obtain ⟨T24, X24, e24, st24⟩ := getF X22 hx hZ hown (host := "") (Or.inl (hw _ (List.mem_of_getElem? (i := 28) rfl))) Via.refl e22 F15 (g := (mkF m 37 #[.val (.ref a1), .val (.ref a2), .val (.int p3), .val (.ref a3), .val (.long (f (p3).toNatClampNeg)), .second, .val (.int (1 : Int32))] [(.ref a1), (.long (((f (p3).toNatClampNeg).toUInt64 >>> (y1 &&& 0x3f).toInt64.toUInt64).toInt64)), (.int (1 : Int32)), (.ref a3)])) rfl rfl (hb hby d6_37)
    refine Go.st st24 ?_
    show Go p e below _ (T24.setTop (mkF m 40 #[.val (.ref a1), .val (.ref a2), .val (.int p3), .val (.ref a3), .val (.long (f (p3).toNatClampNeg)), .second, .val (.int (1 : Int32))] [(.ref am), (.long (((f (p3).toNatClampNeg).toUInt64 >>> (y1 &&& 0x3f).toInt64.toUInt64).toInt64)), (.int (1 : Int32)), (.ref a3)]))
    refine Go.st (fun _ => XS.iload X24.here hx rfl (hb hby d6_40) rfl) ?_
    show Go p e below _ (T24.setTop (mkF m 42 #[.val (.ref a1), .val (.ref a2), .val (.int p3), .val (.ref a3), .val (.long (f (p3).toNatClampNeg)), .second, .val (.int (1 : Int32))] [(.int (1 : Int32)), (.ref am), (.long (((f (p3).toNatClampNeg).toUInt64 >>> (y1 &&& 0x3f).toInt64.toUInt64).toInt64)), (.int (1 : Int32)), (.ref a3)]))
    obtain ⟨cl25, Ar25, qk25, Sz25, Nn25, Ha25, Ga25⟩ := id V_16
    have hin25 : ¬ ((1 : Int32) < 0 ∨ cl25.slots.size ≤ ((1 : Int32) : Int32).toNatClampNeg) := inb_of Sz25 ⟨by decide, by decide⟩
    refine Go.st (fun _ => X24.laload hx (j := (1 : Int32)) (v := (.long z1)) (by rw [e24]; exact Ar25.1) (State.isArrayOf_alike hZ.alike Ar25.2.1) Ar25.2.2 hin25 (Has.at Ha25 hin25 rfl) (g := (mkF m 42 #[.val (.ref a1), .val (.ref a2), .val (.int p3), .val (.ref a3), .val (.long (f (p3).toNatClampNeg)), .second, .val (.int (1 : Int32))] [(.int (1 : Int32)), (.ref am), (.long (((f (p3).toNatClampNeg).toUInt64 >>> (y1 &&& 0x3f).toInt64.toUInt64).toInt64)), (.int (1 : Int32)), (.ref a3)])) rfl rfl (hb hby d6_42) _) ?_
    show Go p e below _ (T24.setTop (mkF m 43 #[.val (.ref a1), .val (.ref a2), .val (.int p3), .val (.ref a3), .val (.long (f (p3).toNatClampNeg)), .second, .val (.int (1 : Int32))] [(.long z1), (.long (((f (p3).toNatClampNeg).toUInt64 >>> (y1 &&& 0x3f).toInt64.toUInt64).toInt64)), (.int (1 : Int32)), (.ref a3)]))
    refine Go.st (fun _ => XS.land X24.here hx rfl (hb hby d6_43) rfl) ?_
    show Go p e below _ (T24.setTop (mkF m 44 #[.val (.ref a1), .val (.ref a2), .val (.int p3), .val (.ref a3), .val (.long (f (p3).toNatClampNeg)), .second, .val (.int (1 : Int32))] [(.long ((((f (p3).toNatClampNeg).toUInt64 >>> (y1 &&& 0x3f).toInt64.toUInt64).toInt64) &&& z1)), (.int (1 : Int32)), (.ref a3)]))
    refine Go.st (fun _ => XS.l2i X24.here hx rfl (hb hby d6_44) rfl) ?_
    show Go p e below _ (T24.setTop (mkF m 45 #[.val (.ref a1), .val (.ref a2), .val (.int p3), .val (.ref a3), .val (.long (f (p3).toNatClampNeg)), .second, .val (.int (1 : Int32))] [(.int (((((f (p3).toNatClampNeg).toUInt64 >>> (y1 &&& 0x3f).toInt64.toUInt64).toInt64) &&& z1).toInt32)), (.int (1 : Int32)), (.ref a3)]))
    obtain ⟨cl26, Ar26, qk26, Sz26, Nn26, Ha26, Ga26⟩ := id V_20
    have hin26 : ¬ ((1 : Int32) < 0 ∨ cl26.slots.size ≤ ((1 : Int32) : Int32).toNatClampNeg) := inb_of Sz26 ⟨by decide, by decide⟩
    obtain ⟨T26, h26, X26, e26, W26, st26⟩ := stI X24 hx hZ e24 Ar26 (j := (1 : Int32)) hin26 (g := (mkF m 45 #[.val (.ref a1), .val (.ref a2), .val (.int p3), .val (.ref a3), .val (.long (f (p3).toNatClampNeg)), .second, .val (.int (1 : Int32))] [(.int (((((f (p3).toNatClampNeg).toUInt64 >>> (y1 &&& 0x3f).toInt64.toUInt64).toInt64) &&& z1).toInt32)), (.int (1 : Int32)), (.ref a3)])) rfl rfl (hb hby d6_45)
    refine Go.st st26 ?_
    have O27 : Old Z n0 h26 := O10.wr W26 g3
    have F28 : Fld Z h26 a1 "com/example/gieres/gieres/model/TupleTable" "word" "[I" (.ref aw) := F11.other W26 (Or.inl ne_a1_a3)
    have V_29 : Arv Z h26 aw kw .int (3 : Int32) [(.int x0), (.int x1), (.int x2)] (.int (0 : Int32)) := V_12.other W26 ne_aw_a3
    have F30 : Fld Z h26 a1 "com/example/gieres/gieres/model/TupleTable" "shift" "[I" (.ref as) := F13.other W26 (Or.inl ne_a1_a3)
    have V_31 : Arv Z h26 as ks .int (3 : Int32) [(.int y0), (.int y1), (.int y2)] (.int (0 : Int32)) := V_14.other W26 ne_as_a3
    have F32 : Fld Z h26 a1 "com/example/gieres/gieres/model/TupleTable" "mask" "[J" (.ref am) := F15.other W26 (Or.inl ne_a1_a3)
    have V_33 : Arv Z h26 am km .long (3 : Int32) [(.long z0), (.long z1), (.long z2)] (.long (0 : Int64)) := V_16.other W26 ne_am_a3
    have F34 : Fld Z h26 a1 "com/example/gieres/gieres/model/TupleTable" "width" "I" (.int wd) := F17.other W26 (Or.inl ne_a1_a3)
    have VL35 : LAr Z h26 a2 n f := LAr_other VL18 W26 ne_a2_a3
    have K36 : Keep h0 h26 [a3] := K19.wr W26 (Or.inl (List.mem_of_getElem? (i := 0) rfl))
    have V_37 : Arv Z h26 a3 ki .int (3 : Int32) [(.int (((((f (p3).toNatClampNeg).toUInt64 >>> (y0 &&& 0x3f).toInt64.toUInt64).toInt64) &&& z0).toInt32)), (.int (((((f (p3).toNatClampNeg).toUInt64 >>> (y1 &&& 0x3f).toInt64.toUInt64).toInt64) &&& z1).toInt32)), (.int u2)] (.int (0 : Int32)) := Arv.set Ar26 qk26 Sz26 Nn26 Ha26 Ga26 rfl W26 1 rfl (Nat.le_of_ble_eq_true rfl)
    have N26 := Fr.snoc X26 N9 g3
    show Go p e below _ (T26.setTop (mkF m 46 #[.val (.ref a1), .val (.ref a2), .val (.int p3), .val (.ref a3), .val (.long (f (p3).toNatClampNeg)), .second, .val (.int (1 : Int32))] []))
    refine Go.st (fun _ => XS.iinc X26.here hx rfl (hb hby d6_46) rfl (l' := #[.val (.ref a1), .val (.ref a2), .val (.int p3), .val (.ref a3), .val (.long (f (p3).toNatClampNeg)), .second, .val (.int (2 : Int32))]) rfl) ?_
    show Go p e below _ (T26.setTop (mkF m 49 #[.val (.ref a1), .val (.ref a2), .val (.int p3), .val (.ref a3), .val (.long (f (p3).toNatClampNeg)), .second, .val (.int (2 : Int32))] []))
    refine Go.st (fun _ => XS.goto X26.here hx rfl (pc0 := 49) (pc' := 16) rfl (hb hby d6_49) (by decide) (by decide)) ?_
    show Go p e below _ (T26.setTop (mkF m 16 #[.val (.ref a1), .val (.ref a2), .val (.int p3), .val (.ref a3), .val (.long (f (p3).toNatClampNeg)), .second, .val (.int (2 : Int32))] []))
    refine Go.st (fun _ => XS.iload X26.here hx rfl (hb hby d6_16) rfl) ?_
    show Go p e below _ (T26.setTop (mkF m 18 #[.val (.ref a1), .val (.ref a2), .val (.int p3), .val (.ref a3), .val (.long (f (p3).toNatClampNeg)), .second, .val (.int (2 : Int32))] [(.int (2 : Int32))]))
    refine Go.st (fun _ => XS.aloadN X26.here hx rfl (hb hby d6_18) rfl rfl) ?_
    show Go p e below _ (T26.setTop (mkF m 19 #[.val (.ref a1), .val (.ref a2), .val (.int p3), .val (.ref a3), .val (.long (f (p3).toNatClampNeg)), .second, .val (.int (2 : Int32))] [(.ref a3), (.int (2 : Int32))]))
    obtain ⟨cl38, Ar38, qk38, Sz38, Nn38, Ha38, Ga38⟩ := id V_37
    refine Go.st (fun _ => X26.arraylength hx (by rw [e26]; exact Ar38.1) (State.isArrayOf_alike hZ.alike Ar38.2.1) (g := (mkF m 19 #[.val (.ref a1), .val (.ref a2), .val (.int p3), .val (.ref a3), .val (.long (f (p3).toNatClampNeg)), .second, .val (.int (2 : Int32))] [(.ref a3), (.int (2 : Int32))])) rfl rfl (hb hby d6_19) _) ?_
    rw [len_of Sz38 Nn38]
    show Go p e below _ (T26.setTop (mkF m 20 #[.val (.ref a1), .val (.ref a2), .val (.int p3), .val (.ref a3), .val (.long (f (p3).toNatClampNeg)), .second, .val (.int (2 : Int32))] [(.int (3 : Int32)), (.int (2 : Int32))]))
    refine Go.st (fun _ => XS.icmpNo X26.here hx rfl (hb hby d6_20) rfl (tlt (by decide : (2 : Int32) < (3 : Int32))).2.1) ?_
    show Go p e below _ (T26.setTop (mkF m 23 #[.val (.ref a1), .val (.ref a2), .val (.int p3), .val (.ref a3), .val (.long (f (p3).toNatClampNeg)), .second, .val (.int (2 : Int32))] []))
    refine Go.st (fun _ => XS.aloadN X26.here hx rfl (hb hby d6_23) rfl rfl) ?_
    show Go p e below _ (T26.setTop (mkF m 24 #[.val (.ref a1), .val (.ref a2), .val (.int p3), .val (.ref a3), .val (.long (f (p3).toNatClampNeg)), .second, .val (.int (2 : Int32))] [(.ref a3)]))
    refine Go.st (fun _ => XS.iload X26.here hx rfl (hb hby d6_24) rfl) ?_
    show Go p e below _ (T26.setTop (mkF m 26 #[.val (.ref a1), .val (.ref a2), .val (.int p3), .val (.ref a3), .val (.long (f (p3).toNatClampNeg)), .second, .val (.int (2 : Int32))] [(.int (2 : Int32)), (.ref a3)]))
    refine Go.st (fun _ => XS.lload X26.here hx rfl (hb hby d6_26) rfl) ?_
    show Go p e below _ (T26.setTop (mkF m 28 #[.val (.ref a1), .val (.ref a2), .val (.int p3), .val (.ref a3), .val (.long (f (p3).toNatClampNeg)), .second, .val (.int (2 : Int32))] [(.long (f (p3).toNatClampNeg)), (.int (2 : Int32)), (.ref a3)]))
    refine Go.st (fun _ => XS.aloadN X26.here hx rfl (hb hby d6_28) rfl rfl) ?_
    show Go p e below _ (T26.setTop (mkF m 29 #[.val (.ref a1), .val (.ref a2), .val (.int p3), .val (.ref a3), .val (.long (f (p3).toNatClampNeg)), .second, .val (.int (2 : Int32))] [(.ref a1), (.long (f (p3).toNatClampNeg)), (.int (2 : Int32)), (.ref a3)]))
    obtain ⟨T39, X39, e39, st39⟩ := getF X26 hx hZ hown (host := "") (Or.inl (hw _ (List.mem_of_getElem? (i := 26) rfl))) Via.refl e26 F30 (g := (mkF m 29 #[.val (.ref a1), .val (.ref a2), .val (.int p3), .val (.ref a3), .val (.long (f (p3).toNatClampNeg)), .second, .val (.int (2 : Int32))] [(.ref a1), (.long (f (p3).toNatClampNeg)), (.int (2 : Int32)), (.ref a3)])) rfl rfl (hb hby d6_29)
    refine Go.st st39 ?_
    show Go p e below _ (T39.setTop (mkF m 32 #[.val (.ref a1), .val (.ref a2), .val (.int p3), .val (.ref a3), .val (.long (f (p3).toNatClampNeg)), .second, .val (.int (2 : Int32))] [(.ref as), (.long (f (p3).toNatClampNeg)), (.int (2 : Int32)), (.ref a3)]))
    refine Go.st (fun _ => XS.iload X39.here hx rfl (hb hby d6_32) rfl) ?_
    show Go p e below _ (T39.setTop (mkF m 34 #[.val (.ref a1), .val (.ref a2), .val (.int p3), .val (.ref a3), .val (.long (f (p3).toNatClampNeg)), .second, .val (.int (2 : Int32))] [(.int (2 : Int32)), (.ref as), (.long (f (p3).toNatClampNeg)), (.int (2 : Int32)), (.ref a3)]))
    obtain ⟨cl40, Ar40, qk40, Sz40, Nn40, Ha40, Ga40⟩ := id V_31
    have hin40 : ¬ ((2 : Int32) < 0 ∨ cl40.slots.size ≤ ((2 : Int32) : Int32).toNatClampNeg) := inb_of Sz40 ⟨by decide, by decide⟩
    refine Go.st (fun _ => X39.iaload hx (j := (2 : Int32)) (v := (.int y2)) (by rw [e39]; exact Ar40.1) (State.isArrayOf_alike hZ.alike Ar40.2.1) Ar40.2.2 hin40 (Has.at Ha40 hin40 rfl) (g := (mkF m 34 #[.val (.ref a1), .val (.ref a2), .val (.int p3), .val (.ref a3), .val (.long (f (p3).toNatClampNeg)), .second, .val (.int (2 : Int32))] [(.int (2 : Int32)), (.ref as), (.long (f (p3).toNatClampNeg)), (.int (2 : Int32)), (.ref a3)])) rfl rfl (hb hby d6_34) _) ?_
    show Go p e below _ (T39.setTop (mkF m 35 #[.val (.ref a1), .val (.ref a2), .val (.int p3), .val (.ref a3), .val (.long (f (p3).toNatClampNeg)), .second, .val (.int (2 : Int32))] [(.int y2), (.long (f (p3).toNatClampNeg)), (.int (2 : Int32)), (.ref a3)]))
    refine Go.st (fun _ => XS.lushr X39.here hx rfl (hb hby d6_35) rfl) ?_
    show Go p e below _ (T39.setTop (mkF m 36 #[.val (.ref a1), .val (.ref a2), .val (.int p3), .val (.ref a3), .val (.long (f (p3).toNatClampNeg)), .second, .val (.int (2 : Int32))] [(.long (((f (p3).toNatClampNeg).toUInt64 >>> (y2 &&& 0x3f).toInt64.toUInt64).toInt64)), (.int (2 : Int32)), (.ref a3)]))
    refine Go.st (fun _ => XS.aloadN X39.here hx rfl (hb hby d6_36) rfl rfl) ?_
    show Go p e below _ (T39.setTop (mkF m 37 #[.val (.ref a1), .val (.ref a2), .val (.int p3), .val (.ref a3), .val (.long (f (p3).toNatClampNeg)), .second, .val (.int (2 : Int32))] [(.ref a1), (.long (((f (p3).toNatClampNeg).toUInt64 >>> (y2 &&& 0x3f).toInt64.toUInt64).toInt64)), (.int (2 : Int32)), (.ref a3)]))
    obtain ⟨T41, X41, e41, st41⟩ := getF X39 hx hZ hown (host := "") (Or.inl (hw _ (List.mem_of_getElem? (i := 28) rfl))) Via.refl e39 F32 (g := (mkF m 37 #[.val (.ref a1), .val (.ref a2), .val (.int p3), .val (.ref a3), .val (.long (f (p3).toNatClampNeg)), .second, .val (.int (2 : Int32))] [(.ref a1), (.long (((f (p3).toNatClampNeg).toUInt64 >>> (y2 &&& 0x3f).toInt64.toUInt64).toInt64)), (.int (2 : Int32)), (.ref a3)])) rfl rfl (hb hby d6_37)
    refine Go.st st41 ?_
    show Go p e below _ (T41.setTop (mkF m 40 #[.val (.ref a1), .val (.ref a2), .val (.int p3), .val (.ref a3), .val (.long (f (p3).toNatClampNeg)), .second, .val (.int (2 : Int32))] [(.ref am), (.long (((f (p3).toNatClampNeg).toUInt64 >>> (y2 &&& 0x3f).toInt64.toUInt64).toInt64)), (.int (2 : Int32)), (.ref a3)]))
    refine Go.st (fun _ => XS.iload X41.here hx rfl (hb hby d6_40) rfl) ?_
    show Go p e below _ (T41.setTop (mkF m 42 #[.val (.ref a1), .val (.ref a2), .val (.int p3), .val (.ref a3), .val (.long (f (p3).toNatClampNeg)), .second, .val (.int (2 : Int32))] [(.int (2 : Int32)), (.ref am), (.long (((f (p3).toNatClampNeg).toUInt64 >>> (y2 &&& 0x3f).toInt64.toUInt64).toInt64)), (.int (2 : Int32)), (.ref a3)]))
    obtain ⟨cl42, Ar42, qk42, Sz42, Nn42, Ha42, Ga42⟩ := id V_33
    have hin42 : ¬ ((2 : Int32) < 0 ∨ cl42.slots.size ≤ ((2 : Int32) : Int32).toNatClampNeg) := inb_of Sz42 ⟨by decide, by decide⟩
    refine Go.st (fun _ => X41.laload hx (j := (2 : Int32)) (v := (.long z2)) (by rw [e41]; exact Ar42.1) (State.isArrayOf_alike hZ.alike Ar42.2.1) Ar42.2.2 hin42 (Has.at Ha42 hin42 rfl) (g := (mkF m 42 #[.val (.ref a1), .val (.ref a2), .val (.int p3), .val (.ref a3), .val (.long (f (p3).toNatClampNeg)), .second, .val (.int (2 : Int32))] [(.int (2 : Int32)), (.ref am), (.long (((f (p3).toNatClampNeg).toUInt64 >>> (y2 &&& 0x3f).toInt64.toUInt64).toInt64)), (.int (2 : Int32)), (.ref a3)])) rfl rfl (hb hby d6_42) _) ?_
    show Go p e below _ (T41.setTop (mkF m 43 #[.val (.ref a1), .val (.ref a2), .val (.int p3), .val (.ref a3), .val (.long (f (p3).toNatClampNeg)), .second, .val (.int (2 : Int32))] [(.long z2), (.long (((f (p3).toNatClampNeg).toUInt64 >>> (y2 &&& 0x3f).toInt64.toUInt64).toInt64)), (.int (2 : Int32)), (.ref a3)]))
    refine Go.st (fun _ => XS.land X41.here hx rfl (hb hby d6_43) rfl) ?_
    show Go p e below _ (T41.setTop (mkF m 44 #[.val (.ref a1), .val (.ref a2), .val (.int p3), .val (.ref a3), .val (.long (f (p3).toNatClampNeg)), .second, .val (.int (2 : Int32))] [(.long ((((f (p3).toNatClampNeg).toUInt64 >>> (y2 &&& 0x3f).toInt64.toUInt64).toInt64) &&& z2)), (.int (2 : Int32)), (.ref a3)]))
    refine Go.st (fun _ => XS.l2i X41.here hx rfl (hb hby d6_44) rfl) ?_
    show Go p e below _ (T41.setTop (mkF m 45 #[.val (.ref a1), .val (.ref a2), .val (.int p3), .val (.ref a3), .val (.long (f (p3).toNatClampNeg)), .second, .val (.int (2 : Int32))] [(.int (((((f (p3).toNatClampNeg).toUInt64 >>> (y2 &&& 0x3f).toInt64.toUInt64).toInt64) &&& z2).toInt32)), (.int (2 : Int32)), (.ref a3)]))
    obtain ⟨cl43, Ar43, qk43, Sz43, Nn43, Ha43, Ga43⟩ := id V_37
    have hin43 : ¬ ((2 : Int32) < 0 ∨ cl43.slots.size ≤ ((2 : Int32) : Int32).toNatClampNeg) := inb_of Sz43 ⟨by decide, by decide⟩
    obtain ⟨T43, h43, X43, e43, W43, st43⟩ := stI X41 hx hZ e41 Ar43 (j := (2 : Int32)) hin43 (g := (mkF m 45 #[.val (.ref a1), .val (.ref a2), .val (.int p3), .val (.ref a3), .val (.long (f (p3).toNatClampNeg)), .second, .val (.int (2 : Int32))] [(.int (((((f (p3).toNatClampNeg).toUInt64 >>> (y2 &&& 0x3f).toInt64.toUInt64).toInt64) &&& z2).toInt32)), (.int (2 : Int32)), (.ref a3)])) rfl rfl (hb hby d6_45)
    refine Go.st st43 ?_
    have O44 : Old Z n0 h43 := O27.wr W43 g3
    have F45 : Fld Z h43 a1 "com/example/gieres/gieres/model/TupleTable" "word" "[I" (.ref aw) := F28.other W43 (Or.inl ne_a1_a3)
    have V_46 : Arv Z h43 aw kw .int (3 : Int32) [(.int x0), (.int x1), (.int x2)] (.int (0 : Int32)) := V_29.other W43 ne_aw_a3
    have F47 : Fld Z h43 a1 "com/example/gieres/gieres/model/TupleTable" "shift" "[I" (.ref as) := F30.other W43 (Or.inl ne_a1_a3)
    have V_48 : Arv Z h43 as ks .int (3 : Int32) [(.int y0), (.int y1), (.int y2)] (.int (0 : Int32)) := V_31.other W43 ne_as_a3
    have F49 : Fld Z h43 a1 "com/example/gieres/gieres/model/TupleTable" "mask" "[J" (.ref am) := F32.other W43 (Or.inl ne_a1_a3)
    have V_50 : Arv Z h43 am km .long (3 : Int32) [(.long z0), (.long z1), (.long z2)] (.long (0 : Int64)) := V_33.other W43 ne_am_a3
    have F51 : Fld Z h43 a1 "com/example/gieres/gieres/model/TupleTable" "width" "I" (.int wd) := F34.other W43 (Or.inl ne_a1_a3)
    have VL52 : LAr Z h43 a2 n f := LAr_other VL35 W43 ne_a2_a3
    have K53 : Keep h0 h43 [a3] := K36.wr W43 (Or.inl (List.mem_of_getElem? (i := 0) rfl))
    have V_54 : Arv Z h43 a3 ki .int (3 : Int32) [(.int (((((f (p3).toNatClampNeg).toUInt64 >>> (y0 &&& 0x3f).toInt64.toUInt64).toInt64) &&& z0).toInt32)), (.int (((((f (p3).toNatClampNeg).toUInt64 >>> (y1 &&& 0x3f).toInt64.toUInt64).toInt64) &&& z1).toInt32)), (.int (((((f (p3).toNatClampNeg).toUInt64 >>> (y2 &&& 0x3f).toInt64.toUInt64).toInt64) &&& z2).toInt32))] (.int (0 : Int32)) := Arv.set Ar43 qk43 Sz43 Nn43 Ha43 Ga43 rfl W43 2 rfl (Nat.le_of_ble_eq_true rfl)
    have N43 := Fr.snoc X43 N26 g3
    show Go p e below _ (T43.setTop (mkF m 46 #[.val (.ref a1), .val (.ref a2), .val (.int p3), .val (.ref a3), .val (.long (f (p3).toNatClampNeg)), .second, .val (.int (2 : Int32))] []))
    refine Go.st (fun _ => XS.iinc X43.here hx rfl (hb hby d6_46) rfl (l' := #[.val (.ref a1), .val (.ref a2), .val (.int p3), .val (.ref a3), .val (.long (f (p3).toNatClampNeg)), .second, .val (.int (3 : Int32))]) rfl) ?_
    show Go p e below _ (T43.setTop (mkF m 49 #[.val (.ref a1), .val (.ref a2), .val (.int p3), .val (.ref a3), .val (.long (f (p3).toNatClampNeg)), .second, .val (.int (3 : Int32))] []))
    refine Go.st (fun _ => XS.goto X43.here hx rfl (pc0 := 49) (pc' := 16) rfl (hb hby d6_49) (by decide) (by decide)) ?_
    show Go p e below _ (T43.setTop (mkF m 16 #[.val (.ref a1), .val (.ref a2), .val (.int p3), .val (.ref a3), .val (.long (f (p3).toNatClampNeg)), .second, .val (.int (3 : Int32))] []))
    refine Go.st (fun _ => XS.iload X43.here hx rfl (hb hby d6_16) rfl) ?_
    show Go p e below _ (T43.setTop (mkF m 18 #[.val (.ref a1), .val (.ref a2), .val (.int p3), .val (.ref a3), .val (.long (f (p3).toNatClampNeg)), .second, .val (.int (3 : Int32))] [(.int (3 : Int32))]))
    refine Go.st (fun _ => XS.aloadN X43.here hx rfl (hb hby d6_18) rfl rfl) ?_
    show Go p e below _ (T43.setTop (mkF m 19 #[.val (.ref a1), .val (.ref a2), .val (.int p3), .val (.ref a3), .val (.long (f (p3).toNatClampNeg)), .second, .val (.int (3 : Int32))] [(.ref a3), (.int (3 : Int32))]))
    obtain ⟨cl55, Ar55, qk55, Sz55, Nn55, Ha55, Ga55⟩ := id V_54
    refine Go.st (fun _ => X43.arraylength hx (by rw [e43]; exact Ar55.1) (State.isArrayOf_alike hZ.alike Ar55.2.1) (g := (mkF m 19 #[.val (.ref a1), .val (.ref a2), .val (.int p3), .val (.ref a3), .val (.long (f (p3).toNatClampNeg)), .second, .val (.int (3 : Int32))] [(.ref a3), (.int (3 : Int32))])) rfl rfl (hb hby d6_19) _) ?_
    rw [len_of Sz55 Nn55]
    show Go p e below _ (T43.setTop (mkF m 20 #[.val (.ref a1), .val (.ref a2), .val (.int p3), .val (.ref a3), .val (.long (f (p3).toNatClampNeg)), .second, .val (.int (3 : Int32))] [(.int (3 : Int32)), (.int (3 : Int32))]))
    refine Go.st (fun _ => XS.icmpYes X43.here hx rfl (pc0 := 20) (pc' := 52) rfl (hb hby d6_20) rfl (flt (by decide : ¬ ((3 : Int32) < (3 : Int32)))).2.1 (by decide) (by decide)) ?_
    show Go p e below _ (T43.setTop (mkF m 52 #[.val (.ref a1), .val (.ref a2), .val (.int p3), .val (.ref a3), .val (.long (f (p3).toNatClampNeg)), .second, .val (.int (3 : Int32))] []))
    refine Go.st (fun _ => XS.goto X43.here hx rfl (pc0 := 52) (pc' := 103) rfl (hb hby d6_52) (by decide) (by decide)) ?_
    show Go p e below _ (T43.setTop (mkF m 103 #[.val (.ref a1), .val (.ref a2), .val (.int p3), .val (.ref a3), .val (.long (f (p3).toNatClampNeg)), .second, .val (.int (3 : Int32))] []))
    obtain ⟨r0, r1, r2⟩ := hx1 hc2
    have VE : Arv Z h43 a3 ki .int (3 : Int32) [(.int ((own_get (f (p3 + x0).toNatClampNeg) z0 y0).toInt32)), (.int ((own_get (f (p3 + x1).toNatClampNeg) z1 y1).toInt32)), (.int ((own_get (f (p3 + x2).toNatClampNeg) z2 y2).toInt32))] (.int (0 : Int32)) := by simp only [r0, r1, r2, Int32.add_zero]; exact V_54
    exact goRetV X43 hx hlk hret e43 (hb hby d6_103) (by decide) (by decide) ⟨rfl, N43, K53, VE⟩
  · refine Go.st (fun _ => XS.icmpYes X1.here hx rfl (pc0 := 5) (pc' := 55) rfl (hb hby d6_5) rfl (feq hc2).2 (by decide) (by decide)) ?_
    show Go p e below _ (T1.setTop (mkF m 55 #[.val (.ref a1), .val (.ref a2), .val (.int p3), .val (.ref a3), .unset, .unset, .unset] []))
    refine Go.st (fun _ => XS.iconst X1.here hx rfl (hb hby d6_55)) ?_
    show Go p e below _ (T1.setTop (mkF m 56 #[.val (.ref a1), .val (.ref a2), .val (.int p3), .val (.ref a3), .unset, .unset, .unset] [(.int (0 : Int32))]))
    refine Go.st (fun _ => XS.istore X1.here hx rfl (hb hby d6_56) rfl (l' := #[.val (.ref a1), .val (.ref a2), .val (.int p3), .val (.ref a3), .val (.int (0 : Int32)), .unset, .unset]) rfl) ?_
    show Go p e below _ (T1.setTop (mkF m 58 #[.val (.ref a1), .val (.ref a2), .val (.int p3), .val (.ref a3), .val (.int (0 : Int32)), .unset, .unset] []))
    refine Go.st (fun _ => XS.iload X1.here hx rfl (hb hby d6_58) rfl) ?_
    show Go p e below _ (T1.setTop (mkF m 60 #[.val (.ref a1), .val (.ref a2), .val (.int p3), .val (.ref a3), .val (.int (0 : Int32)), .unset, .unset] [(.int (0 : Int32))]))
    refine Go.st (fun _ => XS.aloadN X1.here hx rfl (hb hby d6_60) rfl rfl) ?_
    show Go p e below _ (T1.setTop (mkF m 61 #[.val (.ref a1), .val (.ref a2), .val (.int p3), .val (.ref a3), .val (.int (0 : Int32)), .unset, .unset] [(.ref a3), (.int (0 : Int32))]))
    obtain ⟨cl56, Ar56, qk56, Sz56, Nn56, Ha56, Ga56⟩ := id VI
    refine Go.st (fun _ => X1.arraylength hx (by rw [e1]; exact Ar56.1) (State.isArrayOf_alike hZ.alike Ar56.2.1) (g := (mkF m 61 #[.val (.ref a1), .val (.ref a2), .val (.int p3), .val (.ref a3), .val (.int (0 : Int32)), .unset, .unset] [(.ref a3), (.int (0 : Int32))])) rfl rfl (hb hby d6_61) _) ?_
    rw [len_of Sz56 Nn56]
    show Go p e below _ (T1.setTop (mkF m 62 #[.val (.ref a1), .val (.ref a2), .val (.int p3), .val (.ref a3), .val (.int (0 : Int32)), .unset, .unset] [(.int (3 : Int32)), (.int (0 : Int32))]))
    refine Go.st (fun _ => XS.icmpNo X1.here hx rfl (hb hby d6_62) rfl (tlt (by decide : (0 : Int32) < (3 : Int32))).2.1) ?_
    show Go p e below _ (T1.setTop (mkF m 65 #[.val (.ref a1), .val (.ref a2), .val (.int p3), .val (.ref a3), .val (.int (0 : Int32)), .unset, .unset] []))
    refine Go.st (fun _ => XS.aloadN X1.here hx rfl (hb hby d6_65) rfl rfl) ?_
    show Go p e below _ (T1.setTop (mkF m 66 #[.val (.ref a1), .val (.ref a2), .val (.int p3), .val (.ref a3), .val (.int (0 : Int32)), .unset, .unset] [(.ref a3)]))
    refine Go.st (fun _ => XS.iload X1.here hx rfl (hb hby d6_66) rfl) ?_
    show Go p e below _ (T1.setTop (mkF m 68 #[.val (.ref a1), .val (.ref a2), .val (.int p3), .val (.ref a3), .val (.int (0 : Int32)), .unset, .unset] [(.int (0 : Int32)), (.ref a3)]))
    refine Go.st (fun _ => XS.aloadN X1.here hx rfl (hb hby d6_68) rfl rfl) ?_
    show Go p e below _ (T1.setTop (mkF m 69 #[.val (.ref a1), .val (.ref a2), .val (.int p3), .val (.ref a3), .val (.int (0 : Int32)), .unset, .unset] [(.ref a2), (.int (0 : Int32)), (.ref a3)]))
    refine Go.st (fun _ => XS.iloadN X1.here hx rfl (hb hby d6_69) rfl) ?_
    show Go p e below _ (T1.setTop (mkF m 70 #[.val (.ref a1), .val (.ref a2), .val (.int p3), .val (.ref a3), .val (.int (0 : Int32)), .unset, .unset] [(.int p3), (.ref a2), (.int (0 : Int32)), (.ref a3)]))
    refine Go.st (fun _ => XS.aloadN X1.here hx rfl (hb hby d6_70) rfl rfl) ?_
    show Go p e below _ (T1.setTop (mkF m 71 #[.val (.ref a1), .val (.ref a2), .val (.int p3), .val (.ref a3), .val (.int (0 : Int32)), .unset, .unset] [(.ref a1), (.int p3), (.ref a2), (.int (0 : Int32)), (.ref a3)]))
    obtain ⟨T57, X57, e57, st57⟩ := getF X1 hx hZ hown (host := "") (Or.inl (hw _ (List.mem_of_getElem? (i := 24) rfl))) Via.refl e1 Fw (g := (mkF m 71 #[.val (.ref a1), .val (.ref a2), .val (.int p3), .val (.ref a3), .val (.int (0 : Int32)), .unset, .unset] [(.ref a1), (.int p3), (.ref a2), (.int (0 : Int32)), (.ref a3)])) rfl rfl (hb hby d6_71)
    refine Go.st st57 ?_
    show Go p e below _ (T57.setTop (mkF m 74 #[.val (.ref a1), .val (.ref a2), .val (.int p3), .val (.ref a3), .val (.int (0 : Int32)), .unset, .unset] [(.ref aw), (.int p3), (.ref a2), (.int (0 : Int32)), (.ref a3)]))
    refine Go.st (fun _ => XS.iload X57.here hx rfl (hb hby d6_74) rfl) ?_
    show Go p e below _ (T57.setTop (mkF m 76 #[.val (.ref a1), .val (.ref a2), .val (.int p3), .val (.ref a3), .val (.int (0 : Int32)), .unset, .unset] [(.int (0 : Int32)), (.ref aw), (.int p3), (.ref a2), (.int (0 : Int32)), (.ref a3)]))
    obtain ⟨cl58, Ar58, qk58, Sz58, Nn58, Ha58, Ga58⟩ := id Vw
    have hin58 : ¬ ((0 : Int32) < 0 ∨ cl58.slots.size ≤ ((0 : Int32) : Int32).toNatClampNeg) := inb_of Sz58 ⟨by decide, by decide⟩
    refine Go.st (fun _ => X57.iaload hx (j := (0 : Int32)) (v := (.int x0)) (by rw [e57]; exact Ar58.1) (State.isArrayOf_alike hZ.alike Ar58.2.1) Ar58.2.2 hin58 (Has.at Ha58 hin58 rfl) (g := (mkF m 76 #[.val (.ref a1), .val (.ref a2), .val (.int p3), .val (.ref a3), .val (.int (0 : Int32)), .unset, .unset] [(.int (0 : Int32)), (.ref aw), (.int p3), (.ref a2), (.int (0 : Int32)), (.ref a3)])) rfl rfl (hb hby d6_76) _) ?_
    show Go p e below _ (T57.setTop (mkF m 77 #[.val (.ref a1), .val (.ref a2), .val (.int p3), .val (.ref a3), .val (.int (0 : Int32)), .unset, .unset] [(.int x0), (.int p3), (.ref a2), (.int (0 : Int32)), (.ref a3)]))
    refine Go.st (fun _ => XS.iadd X57.here hx rfl (hb hby d6_77) rfl) ?_
    show Go p e below _ (T57.setTop (mkF m 78 #[.val (.ref a1), .val (.ref a2), .val (.int p3), .val (.ref a3), .val (.int (0 : Int32)), .unset, .unset] [(.int (p3 + x0)), (.ref a2), (.int (0 : Int32)), (.ref a3)]))
    obtain ⟨cl59, Ar59, hin59, hat59, -⟩ := LAr_in KA (j := (p3 + x0)) hj0_0 hj0_1
    refine Go.st (fun _ => X57.laload hx (j := (p3 + x0)) (v := (.long (f ((p3 + x0)).toNatClampNeg))) (by rw [e57]; exact Ar59.1) (State.isArrayOf_alike hZ.alike Ar59.2.1) Ar59.2.2 hin59 hat59 (g := (mkF m 78 #[.val (.ref a1), .val (.ref a2), .val (.int p3), .val (.ref a3), .val (.int (0 : Int32)), .unset, .unset] [(.int (p3 + x0)), (.ref a2), (.int (0 : Int32)), (.ref a3)])) rfl rfl (hb hby d6_78) _) ?_
    show Go p e below _ (T57.setTop (mkF m 79 #[.val (.ref a1), .val (.ref a2), .val (.int p3), .val (.ref a3), .val (.int (0 : Int32)), .unset, .unset] [(.long (f ((p3 + x0)).toNatClampNeg)), (.int (0 : Int32)), (.ref a3)]))
    refine Go.st (fun _ => XS.aloadN X57.here hx rfl (hb hby d6_79) rfl rfl) ?_
    show Go p e below _ (T57.setTop (mkF m 80 #[.val (.ref a1), .val (.ref a2), .val (.int p3), .val (.ref a3), .val (.int (0 : Int32)), .unset, .unset] [(.ref a1), (.long (f ((p3 + x0)).toNatClampNeg)), (.int (0 : Int32)), (.ref a3)]))
    obtain ⟨T60, X60, e60, st60⟩ := getF X57 hx hZ hown (host := "") (Or.inl (hw _ (List.mem_of_getElem? (i := 26) rfl))) Via.refl e57 Fsh (g := (mkF m 80 #[.val (.ref a1), .val (.ref a2), .val (.int p3), .val (.ref a3), .val (.int (0 : Int32)), .unset, .unset] [(.ref a1), (.long (f ((p3 + x0)).toNatClampNeg)), (.int (0 : Int32)), (.ref a3)])) rfl rfl (hb hby d6_80)
    refine Go.st st60 ?_
    show Go p e below _ (T60.setTop (mkF m 83 #[.val (.ref a1), .val (.ref a2), .val (.int p3), .val (.ref a3), .val (.int (0 : Int32)), .unset, .unset] [(.ref as), (.long (f ((p3 + x0)).toNatClampNeg)), (.int (0 : Int32)), (.ref a3)]))
    refine Go.st (fun _ => XS.iload X60.here hx rfl (hb hby d6_83) rfl) ?_
    show Go p e below _ (T60.setTop (mkF m 85 #[.val (.ref a1), .val (.ref a2), .val (.int p3), .val (.ref a3), .val (.int (0 : Int32)), .unset, .unset] [(.int (0 : Int32)), (.ref as), (.long (f ((p3 + x0)).toNatClampNeg)), (.int (0 : Int32)), (.ref a3)]))
    obtain ⟨cl61, Ar61, qk61, Sz61, Nn61, Ha61, Ga61⟩ := id Vs
    have hin61 : ¬ ((0 : Int32) < 0 ∨ cl61.slots.size ≤ ((0 : Int32) : Int32).toNatClampNeg) := inb_of Sz61 ⟨by decide, by decide⟩
    refine Go.st (fun _ => X60.iaload hx (j := (0 : Int32)) (v := (.int y0)) (by rw [e60]; exact Ar61.1) (State.isArrayOf_alike hZ.alike Ar61.2.1) Ar61.2.2 hin61 (Has.at Ha61 hin61 rfl) (g := (mkF m 85 #[.val (.ref a1), .val (.ref a2), .val (.int p3), .val (.ref a3), .val (.int (0 : Int32)), .unset, .unset] [(.int (0 : Int32)), (.ref as), (.long (f ((p3 + x0)).toNatClampNeg)), (.int (0 : Int32)), (.ref a3)])) rfl rfl (hb hby d6_85) _) ?_
    show Go p e below _ (T60.setTop (mkF m 86 #[.val (.ref a1), .val (.ref a2), .val (.int p3), .val (.ref a3), .val (.int (0 : Int32)), .unset, .unset] [(.int y0), (.long (f ((p3 + x0)).toNatClampNeg)), (.int (0 : Int32)), (.ref a3)]))
    refine Go.st (fun _ => XS.lushr X60.here hx rfl (hb hby d6_86) rfl) ?_
    show Go p e below _ (T60.setTop (mkF m 87 #[.val (.ref a1), .val (.ref a2), .val (.int p3), .val (.ref a3), .val (.int (0 : Int32)), .unset, .unset] [(.long (((f ((p3 + x0)).toNatClampNeg).toUInt64 >>> (y0 &&& 0x3f).toInt64.toUInt64).toInt64)), (.int (0 : Int32)), (.ref a3)]))
    refine Go.st (fun _ => XS.aloadN X60.here hx rfl (hb hby d6_87) rfl rfl) ?_
    show Go p e below _ (T60.setTop (mkF m 88 #[.val (.ref a1), .val (.ref a2), .val (.int p3), .val (.ref a3), .val (.int (0 : Int32)), .unset, .unset] [(.ref a1), (.long (((f ((p3 + x0)).toNatClampNeg).toUInt64 >>> (y0 &&& 0x3f).toInt64.toUInt64).toInt64)), (.int (0 : Int32)), (.ref a3)]))
    obtain ⟨T62, X62, e62, st62⟩ := getF X60 hx hZ hown (host := "") (Or.inl (hw _ (List.mem_of_getElem? (i := 28) rfl))) Via.refl e60 Fm (g := (mkF m 88 #[.val (.ref a1), .val (.ref a2), .val (.int p3), .val (.ref a3), .val (.int (0 : Int32)), .unset, .unset] [(.ref a1), (.long (((f ((p3 + x0)).toNatClampNeg).toUInt64 >>> (y0 &&& 0x3f).toInt64.toUInt64).toInt64)), (.int (0 : Int32)), (.ref a3)])) rfl rfl (hb hby d6_88)
    refine Go.st st62 ?_
    show Go p e below _ (T62.setTop (mkF m 91 #[.val (.ref a1), .val (.ref a2), .val (.int p3), .val (.ref a3), .val (.int (0 : Int32)), .unset, .unset] [(.ref am), (.long (((f ((p3 + x0)).toNatClampNeg).toUInt64 >>> (y0 &&& 0x3f).toInt64.toUInt64).toInt64)), (.int (0 : Int32)), (.ref a3)]))
    refine Go.st (fun _ => XS.iload X62.here hx rfl (hb hby d6_91) rfl) ?_
    show Go p e below _ (T62.setTop (mkF m 93 #[.val (.ref a1), .val (.ref a2), .val (.int p3), .val (.ref a3), .val (.int (0 : Int32)), .unset, .unset] [(.int (0 : Int32)), (.ref am), (.long (((f ((p3 + x0)).toNatClampNeg).toUInt64 >>> (y0 &&& 0x3f).toInt64.toUInt64).toInt64)), (.int (0 : Int32)), (.ref a3)]))
    obtain ⟨cl63, Ar63, qk63, Sz63, Nn63, Ha63, Ga63⟩ := id Vm
    have hin63 : ¬ ((0 : Int32) < 0 ∨ cl63.slots.size ≤ ((0 : Int32) : Int32).toNatClampNeg) := inb_of Sz63 ⟨by decide, by decide⟩
    refine Go.st (fun _ => X62.laload hx (j := (0 : Int32)) (v := (.long z0)) (by rw [e62]; exact Ar63.1) (State.isArrayOf_alike hZ.alike Ar63.2.1) Ar63.2.2 hin63 (Has.at Ha63 hin63 rfl) (g := (mkF m 93 #[.val (.ref a1), .val (.ref a2), .val (.int p3), .val (.ref a3), .val (.int (0 : Int32)), .unset, .unset] [(.int (0 : Int32)), (.ref am), (.long (((f ((p3 + x0)).toNatClampNeg).toUInt64 >>> (y0 &&& 0x3f).toInt64.toUInt64).toInt64)), (.int (0 : Int32)), (.ref a3)])) rfl rfl (hb hby d6_93) _) ?_
    show Go p e below _ (T62.setTop (mkF m 94 #[.val (.ref a1), .val (.ref a2), .val (.int p3), .val (.ref a3), .val (.int (0 : Int32)), .unset, .unset] [(.long z0), (.long (((f ((p3 + x0)).toNatClampNeg).toUInt64 >>> (y0 &&& 0x3f).toInt64.toUInt64).toInt64)), (.int (0 : Int32)), (.ref a3)]))
    refine Go.st (fun _ => XS.land X62.here hx rfl (hb hby d6_94) rfl) ?_
    show Go p e below _ (T62.setTop (mkF m 95 #[.val (.ref a1), .val (.ref a2), .val (.int p3), .val (.ref a3), .val (.int (0 : Int32)), .unset, .unset] [(.long ((((f ((p3 + x0)).toNatClampNeg).toUInt64 >>> (y0 &&& 0x3f).toInt64.toUInt64).toInt64) &&& z0)), (.int (0 : Int32)), (.ref a3)]))
    refine Go.st (fun _ => XS.l2i X62.here hx rfl (hb hby d6_95) rfl) ?_
    show Go p e below _ (T62.setTop (mkF m 96 #[.val (.ref a1), .val (.ref a2), .val (.int p3), .val (.ref a3), .val (.int (0 : Int32)), .unset, .unset] [(.int (((((f ((p3 + x0)).toNatClampNeg).toUInt64 >>> (y0 &&& 0x3f).toInt64.toUInt64).toInt64) &&& z0).toInt32)), (.int (0 : Int32)), (.ref a3)]))
    obtain ⟨cl64, Ar64, qk64, Sz64, Nn64, Ha64, Ga64⟩ := id VI
    have hin64 : ¬ ((0 : Int32) < 0 ∨ cl64.slots.size ≤ ((0 : Int32) : Int32).toNatClampNeg) := inb_of Sz64 ⟨by decide, by decide⟩
    obtain ⟨T64, h64, X64, e64, W64, st64⟩ := stI X62 hx hZ e62 Ar64 (j := (0 : Int32)) hin64 (g := (mkF m 96 #[.val (.ref a1), .val (.ref a2), .val (.int p3), .val (.ref a3), .val (.int (0 : Int32)), .unset, .unset] [(.int (((((f ((p3 + x0)).toNatClampNeg).toUInt64 >>> (y0 &&& 0x3f).toInt64.toUInt64).toInt64) &&& z0).toInt32)), (.int (0 : Int32)), (.ref a3)])) rfl rfl (hb hby d6_96)
    refine Go.st st64 ?_
    have O65 : Old Z n0 h64 := O0.wr W64 g3
    have F66 : Fld Z h64 a1 "com/example/gieres/gieres/model/TupleTable" "word" "[I" (.ref aw) := Fw.other W64 (Or.inl ne_a1_a3)
    have V_67 : Arv Z h64 aw kw .int (3 : Int32) [(.int x0), (.int x1), (.int x2)] (.int (0 : Int32)) := Vw.other W64 ne_aw_a3
    have F68 : Fld Z h64 a1 "com/example/gieres/gieres/model/TupleTable" "shift" "[I" (.ref as) := Fsh.other W64 (Or.inl ne_a1_a3)
    have V_69 : Arv Z h64 as ks .int (3 : Int32) [(.int y0), (.int y1), (.int y2)] (.int (0 : Int32)) := Vs.other W64 ne_as_a3
    have F70 : Fld Z h64 a1 "com/example/gieres/gieres/model/TupleTable" "mask" "[J" (.ref am) := Fm.other W64 (Or.inl ne_a1_a3)
    have V_71 : Arv Z h64 am km .long (3 : Int32) [(.long z0), (.long z1), (.long z2)] (.long (0 : Int64)) := Vm.other W64 ne_am_a3
    have F72 : Fld Z h64 a1 "com/example/gieres/gieres/model/TupleTable" "width" "I" (.int wd) := Fwd.other W64 (Or.inl ne_a1_a3)
    have VL73 : LAr Z h64 a2 n f := LAr_other KA W64 ne_a2_a3
    have K74 : Keep h0 h64 [a3] := (Keep.refl h0 [a3]).wr W64 (Or.inl (List.mem_of_getElem? (i := 0) rfl))
    have V_75 : Arv Z h64 a3 ki .int (3 : Int32) [(.int (((((f ((p3 + x0)).toNatClampNeg).toUInt64 >>> (y0 &&& 0x3f).toInt64.toUInt64).toInt64) &&& z0).toInt32)), (.int u1), (.int u2)] (.int (0 : Int32)) := Arv.set Ar64 qk64 Sz64 Nn64 Ha64 Ga64 rfl W64 0 rfl (Nat.le_of_ble_eq_true rfl)
    have N64 := Fr.snoc X64 N0 g3
    show Go p e below _ (T64.setTop (mkF m 97 #[.val (.ref a1), .val (.ref a2), .val (.int p3), .val (.ref a3), .val (.int (0 : Int32)), .unset, .unset] []))
    refine Go.st (fun _ => XS.iinc X64.here hx rfl (hb hby d6_97) rfl (l' := #[.val (.ref a1), .val (.ref a2), .val (.int p3), .val (.ref a3), .val (.int (1 : Int32)), .unset, .unset]) rfl) ?_
    show Go p e below _ (T64.setTop (mkF m 100 #[.val (.ref a1), .val (.ref a2), .val (.int p3), .val (.ref a3), .val (.int (1 : Int32)), .unset, .unset] []))
    refine Go.st (fun _ => XS.goto X64.here hx rfl (pc0 := 100) (pc' := 58) rfl (hb hby d6_100) (by decide) (by decide)) ?_
    show Go p e below _ (T64.setTop (mkF m 58 #[.val (.ref a1), .val (.ref a2), .val (.int p3), .val (.ref a3), .val (.int (1 : Int32)), .unset, .unset] []))
    refine Go.st (fun _ => XS.iload X64.here hx rfl (hb hby d6_58) rfl) ?_
    show Go p e below _ (T64.setTop (mkF m 60 #[.val (.ref a1), .val (.ref a2), .val (.int p3), .val (.ref a3), .val (.int (1 : Int32)), .unset, .unset] [(.int (1 : Int32))]))
    refine Go.st (fun _ => XS.aloadN X64.here hx rfl (hb hby d6_60) rfl rfl) ?_
    show Go p e below _ (T64.setTop (mkF m 61 #[.val (.ref a1), .val (.ref a2), .val (.int p3), .val (.ref a3), .val (.int (1 : Int32)), .unset, .unset] [(.ref a3), (.int (1 : Int32))]))
    obtain ⟨cl76, Ar76, qk76, Sz76, Nn76, Ha76, Ga76⟩ := id V_75
    refine Go.st (fun _ => X64.arraylength hx (by rw [e64]; exact Ar76.1) (State.isArrayOf_alike hZ.alike Ar76.2.1) (g := (mkF m 61 #[.val (.ref a1), .val (.ref a2), .val (.int p3), .val (.ref a3), .val (.int (1 : Int32)), .unset, .unset] [(.ref a3), (.int (1 : Int32))])) rfl rfl (hb hby d6_61) _) ?_
    rw [len_of Sz76 Nn76]
    show Go p e below _ (T64.setTop (mkF m 62 #[.val (.ref a1), .val (.ref a2), .val (.int p3), .val (.ref a3), .val (.int (1 : Int32)), .unset, .unset] [(.int (3 : Int32)), (.int (1 : Int32))]))
    refine Go.st (fun _ => XS.icmpNo X64.here hx rfl (hb hby d6_62) rfl (tlt (by decide : (1 : Int32) < (3 : Int32))).2.1) ?_
    show Go p e below _ (T64.setTop (mkF m 65 #[.val (.ref a1), .val (.ref a2), .val (.int p3), .val (.ref a3), .val (.int (1 : Int32)), .unset, .unset] []))
    refine Go.st (fun _ => XS.aloadN X64.here hx rfl (hb hby d6_65) rfl rfl) ?_
    show Go p e below _ (T64.setTop (mkF m 66 #[.val (.ref a1), .val (.ref a2), .val (.int p3), .val (.ref a3), .val (.int (1 : Int32)), .unset, .unset] [(.ref a3)]))
    refine Go.st (fun _ => XS.iload X64.here hx rfl (hb hby d6_66) rfl) ?_
    show Go p e below _ (T64.setTop (mkF m 68 #[.val (.ref a1), .val (.ref a2), .val (.int p3), .val (.ref a3), .val (.int (1 : Int32)), .unset, .unset] [(.int (1 : Int32)), (.ref a3)]))
    refine Go.st (fun _ => XS.aloadN X64.here hx rfl (hb hby d6_68) rfl rfl) ?_
    show Go p e below _ (T64.setTop (mkF m 69 #[.val (.ref a1), .val (.ref a2), .val (.int p3), .val (.ref a3), .val (.int (1 : Int32)), .unset, .unset] [(.ref a2), (.int (1 : Int32)), (.ref a3)]))
    refine Go.st (fun _ => XS.iloadN X64.here hx rfl (hb hby d6_69) rfl) ?_
    show Go p e below _ (T64.setTop (mkF m 70 #[.val (.ref a1), .val (.ref a2), .val (.int p3), .val (.ref a3), .val (.int (1 : Int32)), .unset, .unset] [(.int p3), (.ref a2), (.int (1 : Int32)), (.ref a3)]))
    refine Go.st (fun _ => XS.aloadN X64.here hx rfl (hb hby d6_70) rfl rfl) ?_
    show Go p e below _ (T64.setTop (mkF m 71 #[.val (.ref a1), .val (.ref a2), .val (.int p3), .val (.ref a3), .val (.int (1 : Int32)), .unset, .unset] [(.ref a1), (.int p3), (.ref a2), (.int (1 : Int32)), (.ref a3)]))
    obtain ⟨T77, X77, e77, st77⟩ := getF X64 hx hZ hown (host := "") (Or.inl (hw _ (List.mem_of_getElem? (i := 24) rfl))) Via.refl e64 F66 (g := (mkF m 71 #[.val (.ref a1), .val (.ref a2), .val (.int p3), .val (.ref a3), .val (.int (1 : Int32)), .unset, .unset] [(.ref a1), (.int p3), (.ref a2), (.int (1 : Int32)), (.ref a3)])) rfl rfl (hb hby d6_71)
    refine Go.st st77 ?_
    show Go p e below _ (T77.setTop (mkF m 74 #[.val (.ref a1), .val (.ref a2), .val (.int p3), .val (.ref a3), .val (.int (1 : Int32)), .unset, .unset] [(.ref aw), (.int p3), (.ref a2), (.int (1 : Int32)), (.ref a3)]))
    refine Go.st (fun _ => XS.iload X77.here hx rfl (hb hby d6_74) rfl) ?_
    show Go p e below _ (T77.setTop (mkF m 76 #[.val (.ref a1), .val (.ref a2), .val (.int p3), .val (.ref a3), .val (.int (1 : Int32)), .unset, .unset] [(.int (1 : Int32)), (.ref aw), (.int p3), (.ref a2), (.int (1 : Int32)), (.ref a3)]))
    obtain ⟨cl78, Ar78, qk78, Sz78, Nn78, Ha78, Ga78⟩ := id V_67
    have hin78 : ¬ ((1 : Int32) < 0 ∨ cl78.slots.size ≤ ((1 : Int32) : Int32).toNatClampNeg) := inb_of Sz78 ⟨by decide, by decide⟩
    refine Go.st (fun _ => X77.iaload hx (j := (1 : Int32)) (v := (.int x1)) (by rw [e77]; exact Ar78.1) (State.isArrayOf_alike hZ.alike Ar78.2.1) Ar78.2.2 hin78 (Has.at Ha78 hin78 rfl) (g := (mkF m 76 #[.val (.ref a1), .val (.ref a2), .val (.int p3), .val (.ref a3), .val (.int (1 : Int32)), .unset, .unset] [(.int (1 : Int32)), (.ref aw), (.int p3), (.ref a2), (.int (1 : Int32)), (.ref a3)])) rfl rfl (hb hby d6_76) _) ?_
    show Go p e below _ (T77.setTop (mkF m 77 #[.val (.ref a1), .val (.ref a2), .val (.int p3), .val (.ref a3), .val (.int (1 : Int32)), .unset, .unset] [(.int x1), (.int p3), (.ref a2), (.int (1 : Int32)), (.ref a3)]))
    refine Go.st (fun _ => XS.iadd X77.here hx rfl (hb hby d6_77) rfl) ?_
    show Go p e below _ (T77.setTop (mkF m 78 #[.val (.ref a1), .val (.ref a2), .val (.int p3), .val (.ref a3), .val (.int (1 : Int32)), .unset, .unset] [(.int (p3 + x1)), (.ref a2), (.int (1 : Int32)), (.ref a3)]))
    obtain ⟨cl79, Ar79, hin79, hat79, -⟩ := LAr_in VL73 (j := (p3 + x1)) hj1_0 hj1_1
    refine Go.st (fun _ => X77.laload hx (j := (p3 + x1)) (v := (.long (f ((p3 + x1)).toNatClampNeg))) (by rw [e77]; exact Ar79.1) (State.isArrayOf_alike hZ.alike Ar79.2.1) Ar79.2.2 hin79 hat79 (g := (mkF m 78 #[.val (.ref a1), .val (.ref a2), .val (.int p3), .val (.ref a3), .val (.int (1 : Int32)), .unset, .unset] [(.int (p3 + x1)), (.ref a2), (.int (1 : Int32)), (.ref a3)])) rfl rfl (hb hby d6_78) _) ?_
    show Go p e below _ (T77.setTop (mkF m 79 #[.val (.ref a1), .val (.ref a2), .val (.int p3), .val (.ref a3), .val (.int (1 : Int32)), .unset, .unset] [(.long (f ((p3 + x1)).toNatClampNeg)), (.int (1 : Int32)), (.ref a3)]))
    refine Go.st (fun _ => XS.aloadN X77.here hx rfl (hb hby d6_79) rfl rfl) ?_
    show Go p e below _ (T77.setTop (mkF m 80 #[.val (.ref a1), .val (.ref a2), .val (.int p3), .val (.ref a3), .val (.int (1 : Int32)), .unset, .unset] [(.ref a1), (.long (f ((p3 + x1)).toNatClampNeg)), (.int (1 : Int32)), (.ref a3)]))
    obtain ⟨T80, X80, e80, st80⟩ := getF X77 hx hZ hown (host := "") (Or.inl (hw _ (List.mem_of_getElem? (i := 26) rfl))) Via.refl e77 F68 (g := (mkF m 80 #[.val (.ref a1), .val (.ref a2), .val (.int p3), .val (.ref a3), .val (.int (1 : Int32)), .unset, .unset] [(.ref a1), (.long (f ((p3 + x1)).toNatClampNeg)), (.int (1 : Int32)), (.ref a3)])) rfl rfl (hb hby d6_80)
    refine Go.st st80 ?_
    show Go p e below _ (T80.setTop (mkF m 83 #[.val (.ref a1), .val (.ref a2), .val (.int p3), .val (.ref a3), .val (.int (1 : Int32)), .unset, .unset] [(.ref as), (.long (f ((p3 + x1)).toNatClampNeg)), (.int (1 : Int32)), (.ref a3)]))
    refine Go.st (fun _ => XS.iload X80.here hx rfl (hb hby d6_83) rfl) ?_
    show Go p e below _ (T80.setTop (mkF m 85 #[.val (.ref a1), .val (.ref a2), .val (.int p3), .val (.ref a3), .val (.int (1 : Int32)), .unset, .unset] [(.int (1 : Int32)), (.ref as), (.long (f ((p3 + x1)).toNatClampNeg)), (.int (1 : Int32)), (.ref a3)]))
    obtain ⟨cl81, Ar81, qk81, Sz81, Nn81, Ha81, Ga81⟩ := id V_69
    have hin81 : ¬ ((1 : Int32) < 0 ∨ cl81.slots.size ≤ ((1 : Int32) : Int32).toNatClampNeg) := inb_of Sz81 ⟨by decide, by decide⟩
    refine Go.st (fun _ => X80.iaload hx (j := (1 : Int32)) (v := (.int y1)) (by rw [e80]; exact Ar81.1) (State.isArrayOf_alike hZ.alike Ar81.2.1) Ar81.2.2 hin81 (Has.at Ha81 hin81 rfl) (g := (mkF m 85 #[.val (.ref a1), .val (.ref a2), .val (.int p3), .val (.ref a3), .val (.int (1 : Int32)), .unset, .unset] [(.int (1 : Int32)), (.ref as), (.long (f ((p3 + x1)).toNatClampNeg)), (.int (1 : Int32)), (.ref a3)])) rfl rfl (hb hby d6_85) _) ?_
    show Go p e below _ (T80.setTop (mkF m 86 #[.val (.ref a1), .val (.ref a2), .val (.int p3), .val (.ref a3), .val (.int (1 : Int32)), .unset, .unset] [(.int y1), (.long (f ((p3 + x1)).toNatClampNeg)), (.int (1 : Int32)), (.ref a3)]))
    refine Go.st (fun _ => XS.lushr X80.here hx rfl (hb hby d6_86) rfl) ?_
    show Go p e below _ (T80.setTop (mkF m 87 #[.val (.ref a1), .val (.ref a2), .val (.int p3), .val (.ref a3), .val (.int (1 : Int32)), .unset, .unset] [(.long (((f ((p3 + x1)).toNatClampNeg).toUInt64 >>> (y1 &&& 0x3f).toInt64.toUInt64).toInt64)), (.int (1 : Int32)), (.ref a3)]))
    refine Go.st (fun _ => XS.aloadN X80.here hx rfl (hb hby d6_87) rfl rfl) ?_
    show Go p e below _ (T80.setTop (mkF m 88 #[.val (.ref a1), .val (.ref a2), .val (.int p3), .val (.ref a3), .val (.int (1 : Int32)), .unset, .unset] [(.ref a1), (.long (((f ((p3 + x1)).toNatClampNeg).toUInt64 >>> (y1 &&& 0x3f).toInt64.toUInt64).toInt64)), (.int (1 : Int32)), (.ref a3)]))
    obtain ⟨T82, X82, e82, st82⟩ := getF X80 hx hZ hown (host := "") (Or.inl (hw _ (List.mem_of_getElem? (i := 28) rfl))) Via.refl e80 F70 (g := (mkF m 88 #[.val (.ref a1), .val (.ref a2), .val (.int p3), .val (.ref a3), .val (.int (1 : Int32)), .unset, .unset] [(.ref a1), (.long (((f ((p3 + x1)).toNatClampNeg).toUInt64 >>> (y1 &&& 0x3f).toInt64.toUInt64).toInt64)), (.int (1 : Int32)), (.ref a3)])) rfl rfl (hb hby d6_88)
    refine Go.st st82 ?_
    show Go p e below _ (T82.setTop (mkF m 91 #[.val (.ref a1), .val (.ref a2), .val (.int p3), .val (.ref a3), .val (.int (1 : Int32)), .unset, .unset] [(.ref am), (.long (((f ((p3 + x1)).toNatClampNeg).toUInt64 >>> (y1 &&& 0x3f).toInt64.toUInt64).toInt64)), (.int (1 : Int32)), (.ref a3)]))
    refine Go.st (fun _ => XS.iload X82.here hx rfl (hb hby d6_91) rfl) ?_
    show Go p e below _ (T82.setTop (mkF m 93 #[.val (.ref a1), .val (.ref a2), .val (.int p3), .val (.ref a3), .val (.int (1 : Int32)), .unset, .unset] [(.int (1 : Int32)), (.ref am), (.long (((f ((p3 + x1)).toNatClampNeg).toUInt64 >>> (y1 &&& 0x3f).toInt64.toUInt64).toInt64)), (.int (1 : Int32)), (.ref a3)]))
    obtain ⟨cl83, Ar83, qk83, Sz83, Nn83, Ha83, Ga83⟩ := id V_71
    have hin83 : ¬ ((1 : Int32) < 0 ∨ cl83.slots.size ≤ ((1 : Int32) : Int32).toNatClampNeg) := inb_of Sz83 ⟨by decide, by decide⟩
    refine Go.st (fun _ => X82.laload hx (j := (1 : Int32)) (v := (.long z1)) (by rw [e82]; exact Ar83.1) (State.isArrayOf_alike hZ.alike Ar83.2.1) Ar83.2.2 hin83 (Has.at Ha83 hin83 rfl) (g := (mkF m 93 #[.val (.ref a1), .val (.ref a2), .val (.int p3), .val (.ref a3), .val (.int (1 : Int32)), .unset, .unset] [(.int (1 : Int32)), (.ref am), (.long (((f ((p3 + x1)).toNatClampNeg).toUInt64 >>> (y1 &&& 0x3f).toInt64.toUInt64).toInt64)), (.int (1 : Int32)), (.ref a3)])) rfl rfl (hb hby d6_93) _) ?_
    show Go p e below _ (T82.setTop (mkF m 94 #[.val (.ref a1), .val (.ref a2), .val (.int p3), .val (.ref a3), .val (.int (1 : Int32)), .unset, .unset] [(.long z1), (.long (((f ((p3 + x1)).toNatClampNeg).toUInt64 >>> (y1 &&& 0x3f).toInt64.toUInt64).toInt64)), (.int (1 : Int32)), (.ref a3)]))
    refine Go.st (fun _ => XS.land X82.here hx rfl (hb hby d6_94) rfl) ?_
    show Go p e below _ (T82.setTop (mkF m 95 #[.val (.ref a1), .val (.ref a2), .val (.int p3), .val (.ref a3), .val (.int (1 : Int32)), .unset, .unset] [(.long ((((f ((p3 + x1)).toNatClampNeg).toUInt64 >>> (y1 &&& 0x3f).toInt64.toUInt64).toInt64) &&& z1)), (.int (1 : Int32)), (.ref a3)]))
    refine Go.st (fun _ => XS.l2i X82.here hx rfl (hb hby d6_95) rfl) ?_
    show Go p e below _ (T82.setTop (mkF m 96 #[.val (.ref a1), .val (.ref a2), .val (.int p3), .val (.ref a3), .val (.int (1 : Int32)), .unset, .unset] [(.int (((((f ((p3 + x1)).toNatClampNeg).toUInt64 >>> (y1 &&& 0x3f).toInt64.toUInt64).toInt64) &&& z1).toInt32)), (.int (1 : Int32)), (.ref a3)]))
    obtain ⟨cl84, Ar84, qk84, Sz84, Nn84, Ha84, Ga84⟩ := id V_75
    have hin84 : ¬ ((1 : Int32) < 0 ∨ cl84.slots.size ≤ ((1 : Int32) : Int32).toNatClampNeg) := inb_of Sz84 ⟨by decide, by decide⟩
    obtain ⟨T84, h84, X84, e84, W84, st84⟩ := stI X82 hx hZ e82 Ar84 (j := (1 : Int32)) hin84 (g := (mkF m 96 #[.val (.ref a1), .val (.ref a2), .val (.int p3), .val (.ref a3), .val (.int (1 : Int32)), .unset, .unset] [(.int (((((f ((p3 + x1)).toNatClampNeg).toUInt64 >>> (y1 &&& 0x3f).toInt64.toUInt64).toInt64) &&& z1).toInt32)), (.int (1 : Int32)), (.ref a3)])) rfl rfl (hb hby d6_96)
    refine Go.st st84 ?_
    have O85 : Old Z n0 h84 := O65.wr W84 g3
    have F86 : Fld Z h84 a1 "com/example/gieres/gieres/model/TupleTable" "word" "[I" (.ref aw) := F66.other W84 (Or.inl ne_a1_a3)
    have V_87 : Arv Z h84 aw kw .int (3 : Int32) [(.int x0), (.int x1), (.int x2)] (.int (0 : Int32)) := V_67.other W84 ne_aw_a3
    have F88 : Fld Z h84 a1 "com/example/gieres/gieres/model/TupleTable" "shift" "[I" (.ref as) := F68.other W84 (Or.inl ne_a1_a3)
    have V_89 : Arv Z h84 as ks .int (3 : Int32) [(.int y0), (.int y1), (.int y2)] (.int (0 : Int32)) := V_69.other W84 ne_as_a3
    have F90 : Fld Z h84 a1 "com/example/gieres/gieres/model/TupleTable" "mask" "[J" (.ref am) := F70.other W84 (Or.inl ne_a1_a3)
    have V_91 : Arv Z h84 am km .long (3 : Int32) [(.long z0), (.long z1), (.long z2)] (.long (0 : Int64)) := V_71.other W84 ne_am_a3
    have F92 : Fld Z h84 a1 "com/example/gieres/gieres/model/TupleTable" "width" "I" (.int wd) := F72.other W84 (Or.inl ne_a1_a3)
    have VL93 : LAr Z h84 a2 n f := LAr_other VL73 W84 ne_a2_a3
    have K94 : Keep h0 h84 [a3] := K74.wr W84 (Or.inl (List.mem_of_getElem? (i := 0) rfl))
    have V_95 : Arv Z h84 a3 ki .int (3 : Int32) [(.int (((((f ((p3 + x0)).toNatClampNeg).toUInt64 >>> (y0 &&& 0x3f).toInt64.toUInt64).toInt64) &&& z0).toInt32)), (.int (((((f ((p3 + x1)).toNatClampNeg).toUInt64 >>> (y1 &&& 0x3f).toInt64.toUInt64).toInt64) &&& z1).toInt32)), (.int u2)] (.int (0 : Int32)) := Arv.set Ar84 qk84 Sz84 Nn84 Ha84 Ga84 rfl W84 1 rfl (Nat.le_of_ble_eq_true rfl)
    have N84 := Fr.snoc X84 N64 g3
    show Go p e below _ (T84.setTop (mkF m 97 #[.val (.ref a1), .val (.ref a2), .val (.int p3), .val (.ref a3), .val (.int (1 : Int32)), .unset, .unset] []))
    refine Go.st (fun _ => XS.iinc X84.here hx rfl (hb hby d6_97) rfl (l' := #[.val (.ref a1), .val (.ref a2), .val (.int p3), .val (.ref a3), .val (.int (2 : Int32)), .unset, .unset]) rfl) ?_
    show Go p e below _ (T84.setTop (mkF m 100 #[.val (.ref a1), .val (.ref a2), .val (.int p3), .val (.ref a3), .val (.int (2 : Int32)), .unset, .unset] []))
    refine Go.st (fun _ => XS.goto X84.here hx rfl (pc0 := 100) (pc' := 58) rfl (hb hby d6_100) (by decide) (by decide)) ?_
    show Go p e below _ (T84.setTop (mkF m 58 #[.val (.ref a1), .val (.ref a2), .val (.int p3), .val (.ref a3), .val (.int (2 : Int32)), .unset, .unset] []))
    refine Go.st (fun _ => XS.iload X84.here hx rfl (hb hby d6_58) rfl) ?_
    show Go p e below _ (T84.setTop (mkF m 60 #[.val (.ref a1), .val (.ref a2), .val (.int p3), .val (.ref a3), .val (.int (2 : Int32)), .unset, .unset] [(.int (2 : Int32))]))
    refine Go.st (fun _ => XS.aloadN X84.here hx rfl (hb hby d6_60) rfl rfl) ?_
    show Go p e below _ (T84.setTop (mkF m 61 #[.val (.ref a1), .val (.ref a2), .val (.int p3), .val (.ref a3), .val (.int (2 : Int32)), .unset, .unset] [(.ref a3), (.int (2 : Int32))]))
    obtain ⟨cl96, Ar96, qk96, Sz96, Nn96, Ha96, Ga96⟩ := id V_95
    refine Go.st (fun _ => X84.arraylength hx (by rw [e84]; exact Ar96.1) (State.isArrayOf_alike hZ.alike Ar96.2.1) (g := (mkF m 61 #[.val (.ref a1), .val (.ref a2), .val (.int p3), .val (.ref a3), .val (.int (2 : Int32)), .unset, .unset] [(.ref a3), (.int (2 : Int32))])) rfl rfl (hb hby d6_61) _) ?_
    rw [len_of Sz96 Nn96]
    show Go p e below _ (T84.setTop (mkF m 62 #[.val (.ref a1), .val (.ref a2), .val (.int p3), .val (.ref a3), .val (.int (2 : Int32)), .unset, .unset] [(.int (3 : Int32)), (.int (2 : Int32))]))
    refine Go.st (fun _ => XS.icmpNo X84.here hx rfl (hb hby d6_62) rfl (tlt (by decide : (2 : Int32) < (3 : Int32))).2.1) ?_
    show Go p e below _ (T84.setTop (mkF m 65 #[.val (.ref a1), .val (.ref a2), .val (.int p3), .val (.ref a3), .val (.int (2 : Int32)), .unset, .unset] []))
    refine Go.st (fun _ => XS.aloadN X84.here hx rfl (hb hby d6_65) rfl rfl) ?_
    show Go p e below _ (T84.setTop (mkF m 66 #[.val (.ref a1), .val (.ref a2), .val (.int p3), .val (.ref a3), .val (.int (2 : Int32)), .unset, .unset] [(.ref a3)]))
    refine Go.st (fun _ => XS.iload X84.here hx rfl (hb hby d6_66) rfl) ?_
    show Go p e below _ (T84.setTop (mkF m 68 #[.val (.ref a1), .val (.ref a2), .val (.int p3), .val (.ref a3), .val (.int (2 : Int32)), .unset, .unset] [(.int (2 : Int32)), (.ref a3)]))
    refine Go.st (fun _ => XS.aloadN X84.here hx rfl (hb hby d6_68) rfl rfl) ?_
    show Go p e below _ (T84.setTop (mkF m 69 #[.val (.ref a1), .val (.ref a2), .val (.int p3), .val (.ref a3), .val (.int (2 : Int32)), .unset, .unset] [(.ref a2), (.int (2 : Int32)), (.ref a3)]))
    refine Go.st (fun _ => XS.iloadN X84.here hx rfl (hb hby d6_69) rfl) ?_
    show Go p e below _ (T84.setTop (mkF m 70 #[.val (.ref a1), .val (.ref a2), .val (.int p3), .val (.ref a3), .val (.int (2 : Int32)), .unset, .unset] [(.int p3), (.ref a2), (.int (2 : Int32)), (.ref a3)]))
    refine Go.st (fun _ => XS.aloadN X84.here hx rfl (hb hby d6_70) rfl rfl) ?_
    show Go p e below _ (T84.setTop (mkF m 71 #[.val (.ref a1), .val (.ref a2), .val (.int p3), .val (.ref a3), .val (.int (2 : Int32)), .unset, .unset] [(.ref a1), (.int p3), (.ref a2), (.int (2 : Int32)), (.ref a3)]))
    obtain ⟨T97, X97, e97, st97⟩ := getF X84 hx hZ hown (host := "") (Or.inl (hw _ (List.mem_of_getElem? (i := 24) rfl))) Via.refl e84 F86 (g := (mkF m 71 #[.val (.ref a1), .val (.ref a2), .val (.int p3), .val (.ref a3), .val (.int (2 : Int32)), .unset, .unset] [(.ref a1), (.int p3), (.ref a2), (.int (2 : Int32)), (.ref a3)])) rfl rfl (hb hby d6_71)
    refine Go.st st97 ?_
    show Go p e below _ (T97.setTop (mkF m 74 #[.val (.ref a1), .val (.ref a2), .val (.int p3), .val (.ref a3), .val (.int (2 : Int32)), .unset, .unset] [(.ref aw), (.int p3), (.ref a2), (.int (2 : Int32)), (.ref a3)]))
    refine Go.st (fun _ => XS.iload X97.here hx rfl (hb hby d6_74) rfl) ?_
    show Go p e below _ (T97.setTop (mkF m 76 #[.val (.ref a1), .val (.ref a2), .val (.int p3), .val (.ref a3), .val (.int (2 : Int32)), .unset, .unset] [(.int (2 : Int32)), (.ref aw), (.int p3), (.ref a2), (.int (2 : Int32)), (.ref a3)]))
    obtain ⟨cl98, Ar98, qk98, Sz98, Nn98, Ha98, Ga98⟩ := id V_87
    have hin98 : ¬ ((2 : Int32) < 0 ∨ cl98.slots.size ≤ ((2 : Int32) : Int32).toNatClampNeg) := inb_of Sz98 ⟨by decide, by decide⟩
    refine Go.st (fun _ => X97.iaload hx (j := (2 : Int32)) (v := (.int x2)) (by rw [e97]; exact Ar98.1) (State.isArrayOf_alike hZ.alike Ar98.2.1) Ar98.2.2 hin98 (Has.at Ha98 hin98 rfl) (g := (mkF m 76 #[.val (.ref a1), .val (.ref a2), .val (.int p3), .val (.ref a3), .val (.int (2 : Int32)), .unset, .unset] [(.int (2 : Int32)), (.ref aw), (.int p3), (.ref a2), (.int (2 : Int32)), (.ref a3)])) rfl rfl (hb hby d6_76) _) ?_
    show Go p e below _ (T97.setTop (mkF m 77 #[.val (.ref a1), .val (.ref a2), .val (.int p3), .val (.ref a3), .val (.int (2 : Int32)), .unset, .unset] [(.int x2), (.int p3), (.ref a2), (.int (2 : Int32)), (.ref a3)]))
    refine Go.st (fun _ => XS.iadd X97.here hx rfl (hb hby d6_77) rfl) ?_
    show Go p e below _ (T97.setTop (mkF m 78 #[.val (.ref a1), .val (.ref a2), .val (.int p3), .val (.ref a3), .val (.int (2 : Int32)), .unset, .unset] [(.int (p3 + x2)), (.ref a2), (.int (2 : Int32)), (.ref a3)]))
    obtain ⟨cl99, Ar99, hin99, hat99, -⟩ := LAr_in VL93 (j := (p3 + x2)) hj2_0 hj2_1
    refine Go.st (fun _ => X97.laload hx (j := (p3 + x2)) (v := (.long (f ((p3 + x2)).toNatClampNeg))) (by rw [e97]; exact Ar99.1) (State.isArrayOf_alike hZ.alike Ar99.2.1) Ar99.2.2 hin99 hat99 (g := (mkF m 78 #[.val (.ref a1), .val (.ref a2), .val (.int p3), .val (.ref a3), .val (.int (2 : Int32)), .unset, .unset] [(.int (p3 + x2)), (.ref a2), (.int (2 : Int32)), (.ref a3)])) rfl rfl (hb hby d6_78) _) ?_
    show Go p e below _ (T97.setTop (mkF m 79 #[.val (.ref a1), .val (.ref a2), .val (.int p3), .val (.ref a3), .val (.int (2 : Int32)), .unset, .unset] [(.long (f ((p3 + x2)).toNatClampNeg)), (.int (2 : Int32)), (.ref a3)]))
    refine Go.st (fun _ => XS.aloadN X97.here hx rfl (hb hby d6_79) rfl rfl) ?_
    show Go p e below _ (T97.setTop (mkF m 80 #[.val (.ref a1), .val (.ref a2), .val (.int p3), .val (.ref a3), .val (.int (2 : Int32)), .unset, .unset] [(.ref a1), (.long (f ((p3 + x2)).toNatClampNeg)), (.int (2 : Int32)), (.ref a3)]))
    obtain ⟨T100, X100, e100, st100⟩ := getF X97 hx hZ hown (host := "") (Or.inl (hw _ (List.mem_of_getElem? (i := 26) rfl))) Via.refl e97 F88 (g := (mkF m 80 #[.val (.ref a1), .val (.ref a2), .val (.int p3), .val (.ref a3), .val (.int (2 : Int32)), .unset, .unset] [(.ref a1), (.long (f ((p3 + x2)).toNatClampNeg)), (.int (2 : Int32)), (.ref a3)])) rfl rfl (hb hby d6_80)
    refine Go.st st100 ?_
    show Go p e below _ (T100.setTop (mkF m 83 #[.val (.ref a1), .val (.ref a2), .val (.int p3), .val (.ref a3), .val (.int (2 : Int32)), .unset, .unset] [(.ref as), (.long (f ((p3 + x2)).toNatClampNeg)), (.int (2 : Int32)), (.ref a3)]))
    refine Go.st (fun _ => XS.iload X100.here hx rfl (hb hby d6_83) rfl) ?_
    show Go p e below _ (T100.setTop (mkF m 85 #[.val (.ref a1), .val (.ref a2), .val (.int p3), .val (.ref a3), .val (.int (2 : Int32)), .unset, .unset] [(.int (2 : Int32)), (.ref as), (.long (f ((p3 + x2)).toNatClampNeg)), (.int (2 : Int32)), (.ref a3)]))
    obtain ⟨cl101, Ar101, qk101, Sz101, Nn101, Ha101, Ga101⟩ := id V_89
    have hin101 : ¬ ((2 : Int32) < 0 ∨ cl101.slots.size ≤ ((2 : Int32) : Int32).toNatClampNeg) := inb_of Sz101 ⟨by decide, by decide⟩
    refine Go.st (fun _ => X100.iaload hx (j := (2 : Int32)) (v := (.int y2)) (by rw [e100]; exact Ar101.1) (State.isArrayOf_alike hZ.alike Ar101.2.1) Ar101.2.2 hin101 (Has.at Ha101 hin101 rfl) (g := (mkF m 85 #[.val (.ref a1), .val (.ref a2), .val (.int p3), .val (.ref a3), .val (.int (2 : Int32)), .unset, .unset] [(.int (2 : Int32)), (.ref as), (.long (f ((p3 + x2)).toNatClampNeg)), (.int (2 : Int32)), (.ref a3)])) rfl rfl (hb hby d6_85) _) ?_
    show Go p e below _ (T100.setTop (mkF m 86 #[.val (.ref a1), .val (.ref a2), .val (.int p3), .val (.ref a3), .val (.int (2 : Int32)), .unset, .unset] [(.int y2), (.long (f ((p3 + x2)).toNatClampNeg)), (.int (2 : Int32)), (.ref a3)]))
    refine Go.st (fun _ => XS.lushr X100.here hx rfl (hb hby d6_86) rfl) ?_
    show Go p e below _ (T100.setTop (mkF m 87 #[.val (.ref a1), .val (.ref a2), .val (.int p3), .val (.ref a3), .val (.int (2 : Int32)), .unset, .unset] [(.long (((f ((p3 + x2)).toNatClampNeg).toUInt64 >>> (y2 &&& 0x3f).toInt64.toUInt64).toInt64)), (.int (2 : Int32)), (.ref a3)]))
    refine Go.st (fun _ => XS.aloadN X100.here hx rfl (hb hby d6_87) rfl rfl) ?_
    show Go p e below _ (T100.setTop (mkF m 88 #[.val (.ref a1), .val (.ref a2), .val (.int p3), .val (.ref a3), .val (.int (2 : Int32)), .unset, .unset] [(.ref a1), (.long (((f ((p3 + x2)).toNatClampNeg).toUInt64 >>> (y2 &&& 0x3f).toInt64.toUInt64).toInt64)), (.int (2 : Int32)), (.ref a3)]))
    obtain ⟨T102, X102, e102, st102⟩ := getF X100 hx hZ hown (host := "") (Or.inl (hw _ (List.mem_of_getElem? (i := 28) rfl))) Via.refl e100 F90 (g := (mkF m 88 #[.val (.ref a1), .val (.ref a2), .val (.int p3), .val (.ref a3), .val (.int (2 : Int32)), .unset, .unset] [(.ref a1), (.long (((f ((p3 + x2)).toNatClampNeg).toUInt64 >>> (y2 &&& 0x3f).toInt64.toUInt64).toInt64)), (.int (2 : Int32)), (.ref a3)])) rfl rfl (hb hby d6_88)
    refine Go.st st102 ?_
    show Go p e below _ (T102.setTop (mkF m 91 #[.val (.ref a1), .val (.ref a2), .val (.int p3), .val (.ref a3), .val (.int (2 : Int32)), .unset, .unset] [(.ref am), (.long (((f ((p3 + x2)).toNatClampNeg).toUInt64 >>> (y2 &&& 0x3f).toInt64.toUInt64).toInt64)), (.int (2 : Int32)), (.ref a3)]))
    refine Go.st (fun _ => XS.iload X102.here hx rfl (hb hby d6_91) rfl) ?_
    show Go p e below _ (T102.setTop (mkF m 93 #[.val (.ref a1), .val (.ref a2), .val (.int p3), .val (.ref a3), .val (.int (2 : Int32)), .unset, .unset] [(.int (2 : Int32)), (.ref am), (.long (((f ((p3 + x2)).toNatClampNeg).toUInt64 >>> (y2 &&& 0x3f).toInt64.toUInt64).toInt64)), (.int (2 : Int32)), (.ref a3)]))
    obtain ⟨cl103, Ar103, qk103, Sz103, Nn103, Ha103, Ga103⟩ := id V_91
    have hin103 : ¬ ((2 : Int32) < 0 ∨ cl103.slots.size ≤ ((2 : Int32) : Int32).toNatClampNeg) := inb_of Sz103 ⟨by decide, by decide⟩
    refine Go.st (fun _ => X102.laload hx (j := (2 : Int32)) (v := (.long z2)) (by rw [e102]; exact Ar103.1) (State.isArrayOf_alike hZ.alike Ar103.2.1) Ar103.2.2 hin103 (Has.at Ha103 hin103 rfl) (g := (mkF m 93 #[.val (.ref a1), .val (.ref a2), .val (.int p3), .val (.ref a3), .val (.int (2 : Int32)), .unset, .unset] [(.int (2 : Int32)), (.ref am), (.long (((f ((p3 + x2)).toNatClampNeg).toUInt64 >>> (y2 &&& 0x3f).toInt64.toUInt64).toInt64)), (.int (2 : Int32)), (.ref a3)])) rfl rfl (hb hby d6_93) _) ?_
    show Go p e below _ (T102.setTop (mkF m 94 #[.val (.ref a1), .val (.ref a2), .val (.int p3), .val (.ref a3), .val (.int (2 : Int32)), .unset, .unset] [(.long z2), (.long (((f ((p3 + x2)).toNatClampNeg).toUInt64 >>> (y2 &&& 0x3f).toInt64.toUInt64).toInt64)), (.int (2 : Int32)), (.ref a3)]))
    refine Go.st (fun _ => XS.land X102.here hx rfl (hb hby d6_94) rfl) ?_
    show Go p e below _ (T102.setTop (mkF m 95 #[.val (.ref a1), .val (.ref a2), .val (.int p3), .val (.ref a3), .val (.int (2 : Int32)), .unset, .unset] [(.long ((((f ((p3 + x2)).toNatClampNeg).toUInt64 >>> (y2 &&& 0x3f).toInt64.toUInt64).toInt64) &&& z2)), (.int (2 : Int32)), (.ref a3)]))
    refine Go.st (fun _ => XS.l2i X102.here hx rfl (hb hby d6_95) rfl) ?_
    show Go p e below _ (T102.setTop (mkF m 96 #[.val (.ref a1), .val (.ref a2), .val (.int p3), .val (.ref a3), .val (.int (2 : Int32)), .unset, .unset] [(.int (((((f ((p3 + x2)).toNatClampNeg).toUInt64 >>> (y2 &&& 0x3f).toInt64.toUInt64).toInt64) &&& z2).toInt32)), (.int (2 : Int32)), (.ref a3)]))
    obtain ⟨cl104, Ar104, qk104, Sz104, Nn104, Ha104, Ga104⟩ := id V_95
    have hin104 : ¬ ((2 : Int32) < 0 ∨ cl104.slots.size ≤ ((2 : Int32) : Int32).toNatClampNeg) := inb_of Sz104 ⟨by decide, by decide⟩
    obtain ⟨T104, h104, X104, e104, W104, st104⟩ := stI X102 hx hZ e102 Ar104 (j := (2 : Int32)) hin104 (g := (mkF m 96 #[.val (.ref a1), .val (.ref a2), .val (.int p3), .val (.ref a3), .val (.int (2 : Int32)), .unset, .unset] [(.int (((((f ((p3 + x2)).toNatClampNeg).toUInt64 >>> (y2 &&& 0x3f).toInt64.toUInt64).toInt64) &&& z2).toInt32)), (.int (2 : Int32)), (.ref a3)])) rfl rfl (hb hby d6_96)
    refine Go.st st104 ?_
    have O105 : Old Z n0 h104 := O85.wr W104 g3
    have F106 : Fld Z h104 a1 "com/example/gieres/gieres/model/TupleTable" "word" "[I" (.ref aw) := F86.other W104 (Or.inl ne_a1_a3)
    have V_107 : Arv Z h104 aw kw .int (3 : Int32) [(.int x0), (.int x1), (.int x2)] (.int (0 : Int32)) := V_87.other W104 ne_aw_a3
    have F108 : Fld Z h104 a1 "com/example/gieres/gieres/model/TupleTable" "shift" "[I" (.ref as) := F88.other W104 (Or.inl ne_a1_a3)
    have V_109 : Arv Z h104 as ks .int (3 : Int32) [(.int y0), (.int y1), (.int y2)] (.int (0 : Int32)) := V_89.other W104 ne_as_a3
    have F110 : Fld Z h104 a1 "com/example/gieres/gieres/model/TupleTable" "mask" "[J" (.ref am) := F90.other W104 (Or.inl ne_a1_a3)
    have V_111 : Arv Z h104 am km .long (3 : Int32) [(.long z0), (.long z1), (.long z2)] (.long (0 : Int64)) := V_91.other W104 ne_am_a3
    have F112 : Fld Z h104 a1 "com/example/gieres/gieres/model/TupleTable" "width" "I" (.int wd) := F92.other W104 (Or.inl ne_a1_a3)
    have VL113 : LAr Z h104 a2 n f := LAr_other VL93 W104 ne_a2_a3
    have K114 : Keep h0 h104 [a3] := K94.wr W104 (Or.inl (List.mem_of_getElem? (i := 0) rfl))
    have V_115 : Arv Z h104 a3 ki .int (3 : Int32) [(.int (((((f ((p3 + x0)).toNatClampNeg).toUInt64 >>> (y0 &&& 0x3f).toInt64.toUInt64).toInt64) &&& z0).toInt32)), (.int (((((f ((p3 + x1)).toNatClampNeg).toUInt64 >>> (y1 &&& 0x3f).toInt64.toUInt64).toInt64) &&& z1).toInt32)), (.int (((((f ((p3 + x2)).toNatClampNeg).toUInt64 >>> (y2 &&& 0x3f).toInt64.toUInt64).toInt64) &&& z2).toInt32))] (.int (0 : Int32)) := Arv.set Ar104 qk104 Sz104 Nn104 Ha104 Ga104 rfl W104 2 rfl (Nat.le_of_ble_eq_true rfl)
    have N104 := Fr.snoc X104 N84 g3
    show Go p e below _ (T104.setTop (mkF m 97 #[.val (.ref a1), .val (.ref a2), .val (.int p3), .val (.ref a3), .val (.int (2 : Int32)), .unset, .unset] []))
    refine Go.st (fun _ => XS.iinc X104.here hx rfl (hb hby d6_97) rfl (l' := #[.val (.ref a1), .val (.ref a2), .val (.int p3), .val (.ref a3), .val (.int (3 : Int32)), .unset, .unset]) rfl) ?_
    show Go p e below _ (T104.setTop (mkF m 100 #[.val (.ref a1), .val (.ref a2), .val (.int p3), .val (.ref a3), .val (.int (3 : Int32)), .unset, .unset] []))
    refine Go.st (fun _ => XS.goto X104.here hx rfl (pc0 := 100) (pc' := 58) rfl (hb hby d6_100) (by decide) (by decide)) ?_
    show Go p e below _ (T104.setTop (mkF m 58 #[.val (.ref a1), .val (.ref a2), .val (.int p3), .val (.ref a3), .val (.int (3 : Int32)), .unset, .unset] []))
    refine Go.st (fun _ => XS.iload X104.here hx rfl (hb hby d6_58) rfl) ?_
    show Go p e below _ (T104.setTop (mkF m 60 #[.val (.ref a1), .val (.ref a2), .val (.int p3), .val (.ref a3), .val (.int (3 : Int32)), .unset, .unset] [(.int (3 : Int32))]))
    refine Go.st (fun _ => XS.aloadN X104.here hx rfl (hb hby d6_60) rfl rfl) ?_
    show Go p e below _ (T104.setTop (mkF m 61 #[.val (.ref a1), .val (.ref a2), .val (.int p3), .val (.ref a3), .val (.int (3 : Int32)), .unset, .unset] [(.ref a3), (.int (3 : Int32))]))
    obtain ⟨cl116, Ar116, qk116, Sz116, Nn116, Ha116, Ga116⟩ := id V_115
    refine Go.st (fun _ => X104.arraylength hx (by rw [e104]; exact Ar116.1) (State.isArrayOf_alike hZ.alike Ar116.2.1) (g := (mkF m 61 #[.val (.ref a1), .val (.ref a2), .val (.int p3), .val (.ref a3), .val (.int (3 : Int32)), .unset, .unset] [(.ref a3), (.int (3 : Int32))])) rfl rfl (hb hby d6_61) _) ?_
    rw [len_of Sz116 Nn116]
    show Go p e below _ (T104.setTop (mkF m 62 #[.val (.ref a1), .val (.ref a2), .val (.int p3), .val (.ref a3), .val (.int (3 : Int32)), .unset, .unset] [(.int (3 : Int32)), (.int (3 : Int32))]))
    refine Go.st (fun _ => XS.icmpYes X104.here hx rfl (pc0 := 62) (pc' := 103) rfl (hb hby d6_62) rfl (flt (by decide : ¬ ((3 : Int32) < (3 : Int32)))).2.1 (by decide) (by decide)) ?_
    show Go p e below _ (T104.setTop (mkF m 103 #[.val (.ref a1), .val (.ref a2), .val (.int p3), .val (.ref a3), .val (.int (3 : Int32)), .unset, .unset] []))
    exact goRetV X104 hx hlk hret e104 (hb hby d6_103) (by decide) (by decide) ⟨rfl, N104, K114, V_115⟩
theorem pn_0 : plainName "com/example/gieres/gieres/model/TupleTableStatesPinLaw" = true := by first | (simp [plainName, overriddenIn]; done) | decide +kernel
set_option maxRecDepth 65536 in
set_option maxHeartbeats 40000000 in
theorem rm0 (l : Launch) (Z : State) (a0 : Array Value) (hw : ∀ d ∈ tables_1, d.before a0 Z = true) (ws : List Jvm.Cond) (q0 : Int64) (p1 : Int32) (q2 : Int64) (p3 : Int32) (q4 : Int64) (p5 : Int32) (h0 : Heap) (n0 : Nat) (O0 : Old Z n0 h0) :
    Ctr l x code maxLocals ret ws room_1 #[(.long q0), (.int p1), (.long q2), (.int p3), (.long q4), (.int p5)] Z h0 (fun v h L => v = some (.int 1) ∧ Fr n0 L) := by
  have ef : ∀ m : MethodId, entryFrame m #[(.long q0), (.int p1), (.long q2), (.int p3), (.long q4), (.int p5)] 24 = mkF m 0 #[.val (.long q0), .second, .val (.int p1), .val (.long q2), .second, .val (.int p3), .val (.long q4), .second, .val (.int p5), .unset, .unset, .unset, .unset, .unset, .unset, .unset, .unset, .unset, .unset, .unset, .unset, .unset, .unset, .unset] [] := fun m => by first | (simp [entryFrame, mkF, argsToLocals, Value.category]; done) | rfl
  refine Ctr.of (plainFor_of_name pn_0) ?_
  intro p e s m below meth c s₁ hx hZ hby hml hown0 hnm hret hlk X0 e0
  have hown : s.vm.findClass "com/example/gieres/gieres/model/TupleTableStatesPinLaw" = some m.cls := hown0
  have N0 := Fr.nil n0
  refine Go.st (fun t k => castTop (ef m) k) ?_
  show Go p e below _ (s₁.setTop (mkF m 0 #[.val (.long q0), .second, .val (.int p1), .val (.long q2), .second, .val (.int p3), .val (.long q4), .second, .val (.int p5), .unset, .unset, .unset, .unset, .unset, .unset, .unset, .unset, .unset, .unset, .unset, .unset, .unset, .unset, .unset] []))
  refine Go.st (fun _ => XS.lloadN X0.here hx rfl (hb hby at_0) rfl) ?_
  show Go p e below _ (s₁.setTop (mkF m 1 #[.val (.long q0), .second, .val (.int p1), .val (.long q2), .second, .val (.int p3), .val (.long q4), .second, .val (.int p5), .unset, .unset, .unset, .unset, .unset, .unset, .unset, .unset, .unset, .unset, .unset, .unset, .unset, .unset, .unset] [(.long q0)]))
  refine Go.st (fun _ => X0.ldc2Long hx hown (mvT hZ (hw _ (List.mem_of_getElem? (i := 0) rfl))) (g := (mkF m 1 #[.val (.long q0), .second, .val (.int p1), .val (.long q2), .second, .val (.int p3), .val (.long q4), .second, .val (.int p5), .unset, .unset, .unset, .unset, .unset, .unset, .unset, .unset, .unset, .unset, .unset, .unset, .unset, .unset, .unset] [(.long q0)])) rfl (hb hby at_1) _) ?_
  show Go p e below _ (s₁.setTop (mkF m 4 #[.val (.long q0), .second, .val (.int p1), .val (.long q2), .second, .val (.int p3), .val (.long q4), .second, .val (.int p5), .unset, .unset, .unset, .unset, .unset, .unset, .unset, .unset, .unset, .unset, .unset, .unset, .unset, .unset, .unset] [(.long (4294967295 : Int64)), (.long q0)]))
  refine Go.st (fun _ => XS.land X0.here hx rfl (hb hby at_4) rfl) ?_
  show Go p e below _ (s₁.setTop (mkF m 5 #[.val (.long q0), .second, .val (.int p1), .val (.long q2), .second, .val (.int p3), .val (.long q4), .second, .val (.int p5), .unset, .unset, .unset, .unset, .unset, .unset, .unset, .unset, .unset, .unset, .unset, .unset, .unset, .unset, .unset] [(.long (q0 &&& (4294967295 : Int64)))]))
  refine Go.st (fun _ => XS.lconst X0.here hx rfl (hb hby at_5)) ?_
  show Go p e below _ (s₁.setTop (mkF m 6 #[.val (.long q0), .second, .val (.int p1), .val (.long q2), .second, .val (.int p3), .val (.long q4), .second, .val (.int p5), .unset, .unset, .unset, .unset, .unset, .unset, .unset, .unset, .unset, .unset, .unset, .unset, .unset, .unset, .unset] [(.long (1 : Int64)), (.long (q0 &&& (4294967295 : Int64)))]))
  refine Go.st (fun _ => XS.ladd X0.here hx rfl (hb hby at_6) rfl) ?_
  show Go p e below _ (s₁.setTop (mkF m 7 #[.val (.long q0), .second, .val (.int p1), .val (.long q2), .second, .val (.int p3), .val (.long q4), .second, .val (.int p5), .unset, .unset, .unset, .unset, .unset, .unset, .unset, .unset, .unset, .unset, .unset, .unset, .unset, .unset, .unset] [(.long ((q0 &&& (4294967295 : Int64)) + (1 : Int64)))]))
  refine Go.st (fun _ => XS.lstore X0.here hx rfl (hb hby at_7) rfl (l' := #[.val (.long q0), .second, .val (.int p1), .val (.long q2), .second, .val (.int p3), .val (.long q4), .second, .val (.int p5), .val (.long ((q0 &&& (4294967295 : Int64)) + (1 : Int64))), .second, .unset, .unset, .unset, .unset, .unset, .unset, .unset, .unset, .unset, .unset, .unset, .unset, .unset]) rfl) ?_
  show Go p e below _ (s₁.setTop (mkF m 9 #[.val (.long q0), .second, .val (.int p1), .val (.long q2), .second, .val (.int p3), .val (.long q4), .second, .val (.int p5), .val (.long ((q0 &&& (4294967295 : Int64)) + (1 : Int64))), .second, .unset, .unset, .unset, .unset, .unset, .unset, .unset, .unset, .unset, .unset, .unset, .unset, .unset] []))
  obtain ⟨t0, ht0⟩ : ∃ z, z = ((q0 &&& (4294967295 : Int64)) + (1 : Int64)) := ⟨_, rfl⟩
  rw [← ht0]
  have T0T : own_T t0 := own_T_of (own_m32 q0).1 (own_m32 q0).2 ht0
  show Go p e below _ (s₁.setTop (mkF m 9 #[.val (.long q0), .second, .val (.int p1), .val (.long q2), .second, .val (.int p3), .val (.long q4), .second, .val (.int p5), .val (.long t0), .second, .unset, .unset, .unset, .unset, .unset, .unset, .unset, .unset, .unset, .unset, .unset, .unset, .unset] []))
  refine Go.st (fun _ => XS.lloadN X0.here hx rfl (hb hby at_9) rfl) ?_
  show Go p e below _ (s₁.setTop (mkF m 10 #[.val (.long q0), .second, .val (.int p1), .val (.long q2), .second, .val (.int p3), .val (.long q4), .second, .val (.int p5), .val (.long t0), .second, .unset, .unset, .unset, .unset, .unset, .unset, .unset, .unset, .unset, .unset, .unset, .unset, .unset] [(.long q0)]))
  refine Go.st (fun _ => XS.bipush X0.here hx rfl (hb hby at_10)) ?_
  show Go p e below _ (s₁.setTop (mkF m 12 #[.val (.long q0), .second, .val (.int p1), .val (.long q2), .second, .val (.int p3), .val (.long q4), .second, .val (.int p5), .val (.long t0), .second, .unset, .unset, .unset, .unset, .unset, .unset, .unset, .unset, .unset, .unset, .unset, .unset, .unset] [(.int (32 : Int32)), (.long q0)]))
  refine Go.st (fun _ => XS.lushr X0.here hx rfl (hb hby at_12) rfl) ?_
  show Go p e below _ (s₁.setTop (mkF m 13 #[.val (.long q0), .second, .val (.int p1), .val (.long q2), .second, .val (.int p3), .val (.long q4), .second, .val (.int p5), .val (.long t0), .second, .unset, .unset, .unset, .unset, .unset, .unset, .unset, .unset, .unset, .unset, .unset, .unset, .unset] [(.long ((q0.toUInt64 >>> ((32 : Int32) &&& 0x3f).toInt64.toUInt64).toInt64))]))
  refine Go.st (fun _ => XS.lconst X0.here hx rfl (hb hby at_13)) ?_
  show Go p e below _ (s₁.setTop (mkF m 14 #[.val (.long q0), .second, .val (.int p1), .val (.long q2), .second, .val (.int p3), .val (.long q4), .second, .val (.int p5), .val (.long t0), .second, .unset, .unset, .unset, .unset, .unset, .unset, .unset, .unset, .unset, .unset, .unset, .unset, .unset] [(.long (1 : Int64)), (.long ((q0.toUInt64 >>> ((32 : Int32) &&& 0x3f).toInt64.toUInt64).toInt64))]))
  refine Go.st (fun _ => XS.ladd X0.here hx rfl (hb hby at_14) rfl) ?_
  show Go p e below _ (s₁.setTop (mkF m 15 #[.val (.long q0), .second, .val (.int p1), .val (.long q2), .second, .val (.int p3), .val (.long q4), .second, .val (.int p5), .val (.long t0), .second, .unset, .unset, .unset, .unset, .unset, .unset, .unset, .unset, .unset, .unset, .unset, .unset, .unset] [(.long (((q0.toUInt64 >>> ((32 : Int32) &&& 0x3f).toInt64.toUInt64).toInt64) + (1 : Int64)))]))
  refine Go.st (fun _ => XS.lstore X0.here hx rfl (hb hby at_15) rfl (l' := #[.val (.long q0), .second, .val (.int p1), .val (.long q2), .second, .val (.int p3), .val (.long q4), .second, .val (.int p5), .val (.long t0), .second, .val (.long (((q0.toUInt64 >>> ((32 : Int32) &&& 0x3f).toInt64.toUInt64).toInt64) + (1 : Int64))), .second, .unset, .unset, .unset, .unset, .unset, .unset, .unset, .unset, .unset, .unset, .unset]) rfl) ?_
  show Go p e below _ (s₁.setTop (mkF m 17 #[.val (.long q0), .second, .val (.int p1), .val (.long q2), .second, .val (.int p3), .val (.long q4), .second, .val (.int p5), .val (.long t0), .second, .val (.long (((q0.toUInt64 >>> ((32 : Int32) &&& 0x3f).toInt64.toUInt64).toInt64) + (1 : Int64))), .second, .unset, .unset, .unset, .unset, .unset, .unset, .unset, .unset, .unset, .unset, .unset] []))
  obtain ⟨t1, ht1⟩ : ∃ z, z = (((q0.toUInt64 >>> ((32 : Int32) &&& 0x3f).toInt64.toUInt64).toInt64) + (1 : Int64)) := ⟨_, rfl⟩
  rw [← ht1]
  have T1T : own_T t1 := own_T_of (own_u32 q0).1 (own_u32 q0).2 ht1
  show Go p e below _ (s₁.setTop (mkF m 17 #[.val (.long q0), .second, .val (.int p1), .val (.long q2), .second, .val (.int p3), .val (.long q4), .second, .val (.int p5), .val (.long t0), .second, .val (.long t1), .second, .unset, .unset, .unset, .unset, .unset, .unset, .unset, .unset, .unset, .unset, .unset] []))
  refine Go.st (fun _ => XS.iloadN X0.here hx rfl (hb hby at_17) rfl) ?_
  show Go p e below _ (s₁.setTop (mkF m 18 #[.val (.long q0), .second, .val (.int p1), .val (.long q2), .second, .val (.int p3), .val (.long q4), .second, .val (.int p5), .val (.long t0), .second, .val (.long t1), .second, .unset, .unset, .unset, .unset, .unset, .unset, .unset, .unset, .unset, .unset, .unset] [(.int p1)]))
  refine Go.st (fun _ => XS.i2l X0.here hx rfl (hb hby at_18) rfl) ?_
  show Go p e below _ (s₁.setTop (mkF m 19 #[.val (.long q0), .second, .val (.int p1), .val (.long q2), .second, .val (.int p3), .val (.long q4), .second, .val (.int p5), .val (.long t0), .second, .val (.long t1), .second, .unset, .unset, .unset, .unset, .unset, .unset, .unset, .unset, .unset, .unset, .unset] [(.long (p1.toInt64))]))
  refine Go.st (fun _ => X0.ldc2Long hx hown (mvT hZ (hw _ (List.mem_of_getElem? (i := 0) rfl))) (g := (mkF m 19 #[.val (.long q0), .second, .val (.int p1), .val (.long q2), .second, .val (.int p3), .val (.long q4), .second, .val (.int p5), .val (.long t0), .second, .val (.long t1), .second, .unset, .unset, .unset, .unset, .unset, .unset, .unset, .unset, .unset, .unset, .unset] [(.long (p1.toInt64))])) rfl (hb hby at_19) _) ?_
  show Go p e below _ (s₁.setTop (mkF m 22 #[.val (.long q0), .second, .val (.int p1), .val (.long q2), .second, .val (.int p3), .val (.long q4), .second, .val (.int p5), .val (.long t0), .second, .val (.long t1), .second, .unset, .unset, .unset, .unset, .unset, .unset, .unset, .unset, .unset, .unset, .unset] [(.long (4294967295 : Int64)), (.long (p1.toInt64))]))
  refine Go.st (fun _ => XS.land X0.here hx rfl (hb hby at_22) rfl) ?_
  show Go p e below _ (s₁.setTop (mkF m 23 #[.val (.long q0), .second, .val (.int p1), .val (.long q2), .second, .val (.int p3), .val (.long q4), .second, .val (.int p5), .val (.long t0), .second, .val (.long t1), .second, .unset, .unset, .unset, .unset, .unset, .unset, .unset, .unset, .unset, .unset, .unset] [(.long ((p1.toInt64) &&& (4294967295 : Int64)))]))
  refine Go.st (fun _ => XS.lconst X0.here hx rfl (hb hby at_23)) ?_
  show Go p e below _ (s₁.setTop (mkF m 24 #[.val (.long q0), .second, .val (.int p1), .val (.long q2), .second, .val (.int p3), .val (.long q4), .second, .val (.int p5), .val (.long t0), .second, .val (.long t1), .second, .unset, .unset, .unset, .unset, .unset, .unset, .unset, .unset, .unset, .unset, .unset] [(.long (1 : Int64)), (.long ((p1.toInt64) &&& (4294967295 : Int64)))]))
  refine Go.st (fun _ => XS.ladd X0.here hx rfl (hb hby at_24) rfl) ?_
  show Go p e below _ (s₁.setTop (mkF m 25 #[.val (.long q0), .second, .val (.int p1), .val (.long q2), .second, .val (.int p3), .val (.long q4), .second, .val (.int p5), .val (.long t0), .second, .val (.long t1), .second, .unset, .unset, .unset, .unset, .unset, .unset, .unset, .unset, .unset, .unset, .unset] [(.long (((p1.toInt64) &&& (4294967295 : Int64)) + (1 : Int64)))]))
  refine Go.st (fun _ => XS.lstore X0.here hx rfl (hb hby at_25) rfl (l' := #[.val (.long q0), .second, .val (.int p1), .val (.long q2), .second, .val (.int p3), .val (.long q4), .second, .val (.int p5), .val (.long t0), .second, .val (.long t1), .second, .val (.long (((p1.toInt64) &&& (4294967295 : Int64)) + (1 : Int64))), .second, .unset, .unset, .unset, .unset, .unset, .unset, .unset, .unset, .unset]) rfl) ?_
  show Go p e below _ (s₁.setTop (mkF m 27 #[.val (.long q0), .second, .val (.int p1), .val (.long q2), .second, .val (.int p3), .val (.long q4), .second, .val (.int p5), .val (.long t0), .second, .val (.long t1), .second, .val (.long (((p1.toInt64) &&& (4294967295 : Int64)) + (1 : Int64))), .second, .unset, .unset, .unset, .unset, .unset, .unset, .unset, .unset, .unset] []))
  obtain ⟨t2, ht2⟩ : ∃ z, z = (((p1.toInt64) &&& (4294967295 : Int64)) + (1 : Int64)) := ⟨_, rfl⟩
  rw [← ht2]
  have T2T : own_T t2 := own_T_of (own_m32 p1.toInt64).1 (own_m32 p1.toInt64).2 ht2
  show Go p e below _ (s₁.setTop (mkF m 27 #[.val (.long q0), .second, .val (.int p1), .val (.long q2), .second, .val (.int p3), .val (.long q4), .second, .val (.int p5), .val (.long t0), .second, .val (.long t1), .second, .val (.long t2), .second, .unset, .unset, .unset, .unset, .unset, .unset, .unset, .unset, .unset] []))
  refine Go.st (fun _ => XS.lloadN X0.here hx rfl (hb hby at_27) rfl) ?_
  show Go p e below _ (s₁.setTop (mkF m 28 #[.val (.long q0), .second, .val (.int p1), .val (.long q2), .second, .val (.int p3), .val (.long q4), .second, .val (.int p5), .val (.long t0), .second, .val (.long t1), .second, .val (.long t2), .second, .unset, .unset, .unset, .unset, .unset, .unset, .unset, .unset, .unset] [(.long q2)]))
  refine Go.st (fun _ => X0.ldc2Long hx hown (mvT hZ (hw _ (List.mem_of_getElem? (i := 0) rfl))) (g := (mkF m 28 #[.val (.long q0), .second, .val (.int p1), .val (.long q2), .second, .val (.int p3), .val (.long q4), .second, .val (.int p5), .val (.long t0), .second, .val (.long t1), .second, .val (.long t2), .second, .unset, .unset, .unset, .unset, .unset, .unset, .unset, .unset, .unset] [(.long q2)])) rfl (hb hby at_28) _) ?_
  show Go p e below _ (s₁.setTop (mkF m 31 #[.val (.long q0), .second, .val (.int p1), .val (.long q2), .second, .val (.int p3), .val (.long q4), .second, .val (.int p5), .val (.long t0), .second, .val (.long t1), .second, .val (.long t2), .second, .unset, .unset, .unset, .unset, .unset, .unset, .unset, .unset, .unset] [(.long (4294967295 : Int64)), (.long q2)]))
  refine Go.st (fun _ => XS.land X0.here hx rfl (hb hby at_31) rfl) ?_
  show Go p e below _ (s₁.setTop (mkF m 32 #[.val (.long q0), .second, .val (.int p1), .val (.long q2), .second, .val (.int p3), .val (.long q4), .second, .val (.int p5), .val (.long t0), .second, .val (.long t1), .second, .val (.long t2), .second, .unset, .unset, .unset, .unset, .unset, .unset, .unset, .unset, .unset] [(.long (q2 &&& (4294967295 : Int64)))]))
  refine Go.st (fun _ => XS.lload X0.here hx rfl (hb hby at_32) rfl) ?_
  show Go p e below _ (s₁.setTop (mkF m 34 #[.val (.long q0), .second, .val (.int p1), .val (.long q2), .second, .val (.int p3), .val (.long q4), .second, .val (.int p5), .val (.long t0), .second, .val (.long t1), .second, .val (.long t2), .second, .unset, .unset, .unset, .unset, .unset, .unset, .unset, .unset, .unset] [(.long t0), (.long (q2 &&& (4294967295 : Int64)))]))
  refine Go.st (fun _ => XS.lrem X0.here hx rfl (hb hby at_34) rfl T0T.1) ?_
  show Go p e below _ (s₁.setTop (mkF m 35 #[.val (.long q0), .second, .val (.int p1), .val (.long q2), .second, .val (.int p3), .val (.long q4), .second, .val (.int p5), .val (.long t0), .second, .val (.long t1), .second, .val (.long t2), .second, .unset, .unset, .unset, .unset, .unset, .unset, .unset, .unset, .unset] [(.long ((q2 &&& (4294967295 : Int64)) - ((q2 &&& (4294967295 : Int64)) / t0) * t0))]))
  refine Go.st (fun _ => XS.l2i X0.here hx rfl (hb hby at_35) rfl) ?_
  show Go p e below _ (s₁.setTop (mkF m 36 #[.val (.long q0), .second, .val (.int p1), .val (.long q2), .second, .val (.int p3), .val (.long q4), .second, .val (.int p5), .val (.long t0), .second, .val (.long t1), .second, .val (.long t2), .second, .unset, .unset, .unset, .unset, .unset, .unset, .unset, .unset, .unset] [(.int (((q2 &&& (4294967295 : Int64)) - ((q2 &&& (4294967295 : Int64)) / t0) * t0).toInt32))]))
  refine Go.st (fun _ => XS.istore X0.here hx rfl (hb hby at_36) rfl (l' := #[.val (.long q0), .second, .val (.int p1), .val (.long q2), .second, .val (.int p3), .val (.long q4), .second, .val (.int p5), .val (.long t0), .second, .val (.long t1), .second, .val (.long t2), .second, .val (.int (((q2 &&& (4294967295 : Int64)) - ((q2 &&& (4294967295 : Int64)) / t0) * t0).toInt32)), .unset, .unset, .unset, .unset, .unset, .unset, .unset, .unset]) rfl) ?_
  show Go p e below _ (s₁.setTop (mkF m 38 #[.val (.long q0), .second, .val (.int p1), .val (.long q2), .second, .val (.int p3), .val (.long q4), .second, .val (.int p5), .val (.long t0), .second, .val (.long t1), .second, .val (.long t2), .second, .val (.int (((q2 &&& (4294967295 : Int64)) - ((q2 &&& (4294967295 : Int64)) / t0) * t0).toInt32)), .unset, .unset, .unset, .unset, .unset, .unset, .unset, .unset] []))
  obtain ⟨e0v, he0⟩ : ∃ z, z = (((q2 &&& (4294967295 : Int64)) - ((q2 &&& (4294967295 : Int64)) / t0) * t0).toInt32) := ⟨_, rfl⟩
  rw [← he0]
  have R0R := own_rem (own_m32 q2).1 T0T
  show Go p e below _ (s₁.setTop (mkF m 38 #[.val (.long q0), .second, .val (.int p1), .val (.long q2), .second, .val (.int p3), .val (.long q4), .second, .val (.int p5), .val (.long t0), .second, .val (.long t1), .second, .val (.long t2), .second, .val (.int e0v), .unset, .unset, .unset, .unset, .unset, .unset, .unset, .unset] []))
  refine Go.st (fun _ => XS.lloadN X0.here hx rfl (hb hby at_38) rfl) ?_
  show Go p e below _ (s₁.setTop (mkF m 39 #[.val (.long q0), .second, .val (.int p1), .val (.long q2), .second, .val (.int p3), .val (.long q4), .second, .val (.int p5), .val (.long t0), .second, .val (.long t1), .second, .val (.long t2), .second, .val (.int e0v), .unset, .unset, .unset, .unset, .unset, .unset, .unset, .unset] [(.long q2)]))
  refine Go.st (fun _ => XS.bipush X0.here hx rfl (hb hby at_39)) ?_
  show Go p e below _ (s₁.setTop (mkF m 41 #[.val (.long q0), .second, .val (.int p1), .val (.long q2), .second, .val (.int p3), .val (.long q4), .second, .val (.int p5), .val (.long t0), .second, .val (.long t1), .second, .val (.long t2), .second, .val (.int e0v), .unset, .unset, .unset, .unset, .unset, .unset, .unset, .unset] [(.int (32 : Int32)), (.long q2)]))
  refine Go.st (fun _ => XS.lushr X0.here hx rfl (hb hby at_41) rfl) ?_
  show Go p e below _ (s₁.setTop (mkF m 42 #[.val (.long q0), .second, .val (.int p1), .val (.long q2), .second, .val (.int p3), .val (.long q4), .second, .val (.int p5), .val (.long t0), .second, .val (.long t1), .second, .val (.long t2), .second, .val (.int e0v), .unset, .unset, .unset, .unset, .unset, .unset, .unset, .unset] [(.long ((q2.toUInt64 >>> ((32 : Int32) &&& 0x3f).toInt64.toUInt64).toInt64))]))
  refine Go.st (fun _ => XS.lload X0.here hx rfl (hb hby at_42) rfl) ?_
  show Go p e below _ (s₁.setTop (mkF m 44 #[.val (.long q0), .second, .val (.int p1), .val (.long q2), .second, .val (.int p3), .val (.long q4), .second, .val (.int p5), .val (.long t0), .second, .val (.long t1), .second, .val (.long t2), .second, .val (.int e0v), .unset, .unset, .unset, .unset, .unset, .unset, .unset, .unset] [(.long t1), (.long ((q2.toUInt64 >>> ((32 : Int32) &&& 0x3f).toInt64.toUInt64).toInt64))]))
  refine Go.st (fun _ => XS.lrem X0.here hx rfl (hb hby at_44) rfl T1T.1) ?_
  show Go p e below _ (s₁.setTop (mkF m 45 #[.val (.long q0), .second, .val (.int p1), .val (.long q2), .second, .val (.int p3), .val (.long q4), .second, .val (.int p5), .val (.long t0), .second, .val (.long t1), .second, .val (.long t2), .second, .val (.int e0v), .unset, .unset, .unset, .unset, .unset, .unset, .unset, .unset] [(.long (((q2.toUInt64 >>> ((32 : Int32) &&& 0x3f).toInt64.toUInt64).toInt64) - (((q2.toUInt64 >>> ((32 : Int32) &&& 0x3f).toInt64.toUInt64).toInt64) / t1) * t1))]))
  refine Go.st (fun _ => XS.l2i X0.here hx rfl (hb hby at_45) rfl) ?_
  show Go p e below _ (s₁.setTop (mkF m 46 #[.val (.long q0), .second, .val (.int p1), .val (.long q2), .second, .val (.int p3), .val (.long q4), .second, .val (.int p5), .val (.long t0), .second, .val (.long t1), .second, .val (.long t2), .second, .val (.int e0v), .unset, .unset, .unset, .unset, .unset, .unset, .unset, .unset] [(.int ((((q2.toUInt64 >>> ((32 : Int32) &&& 0x3f).toInt64.toUInt64).toInt64) - (((q2.toUInt64 >>> ((32 : Int32) &&& 0x3f).toInt64.toUInt64).toInt64) / t1) * t1).toInt32))]))
  refine Go.st (fun _ => XS.istore X0.here hx rfl (hb hby at_46) rfl (l' := #[.val (.long q0), .second, .val (.int p1), .val (.long q2), .second, .val (.int p3), .val (.long q4), .second, .val (.int p5), .val (.long t0), .second, .val (.long t1), .second, .val (.long t2), .second, .val (.int e0v), .val (.int ((((q2.toUInt64 >>> ((32 : Int32) &&& 0x3f).toInt64.toUInt64).toInt64) - (((q2.toUInt64 >>> ((32 : Int32) &&& 0x3f).toInt64.toUInt64).toInt64) / t1) * t1).toInt32)), .unset, .unset, .unset, .unset, .unset, .unset, .unset]) rfl) ?_
  show Go p e below _ (s₁.setTop (mkF m 48 #[.val (.long q0), .second, .val (.int p1), .val (.long q2), .second, .val (.int p3), .val (.long q4), .second, .val (.int p5), .val (.long t0), .second, .val (.long t1), .second, .val (.long t2), .second, .val (.int e0v), .val (.int ((((q2.toUInt64 >>> ((32 : Int32) &&& 0x3f).toInt64.toUInt64).toInt64) - (((q2.toUInt64 >>> ((32 : Int32) &&& 0x3f).toInt64.toUInt64).toInt64) / t1) * t1).toInt32)), .unset, .unset, .unset, .unset, .unset, .unset, .unset] []))
  obtain ⟨e1v, he1⟩ : ∃ z, z = ((((q2.toUInt64 >>> ((32 : Int32) &&& 0x3f).toInt64.toUInt64).toInt64) - (((q2.toUInt64 >>> ((32 : Int32) &&& 0x3f).toInt64.toUInt64).toInt64) / t1) * t1).toInt32) := ⟨_, rfl⟩
  rw [← he1]
  have R1R := own_rem (own_u32 q2).1 T1T
  show Go p e below _ (s₁.setTop (mkF m 48 #[.val (.long q0), .second, .val (.int p1), .val (.long q2), .second, .val (.int p3), .val (.long q4), .second, .val (.int p5), .val (.long t0), .second, .val (.long t1), .second, .val (.long t2), .second, .val (.int e0v), .val (.int e1v), .unset, .unset, .unset, .unset, .unset, .unset, .unset] []))
  refine Go.st (fun _ => XS.iload X0.here hx rfl (hb hby at_48) rfl) ?_
  show Go p e below _ (s₁.setTop (mkF m 50 #[.val (.long q0), .second, .val (.int p1), .val (.long q2), .second, .val (.int p3), .val (.long q4), .second, .val (.int p5), .val (.long t0), .second, .val (.long t1), .second, .val (.long t2), .second, .val (.int e0v), .val (.int e1v), .unset, .unset, .unset, .unset, .unset, .unset, .unset] [(.int p3)]))
  refine Go.st (fun _ => XS.i2l X0.here hx rfl (hb hby at_50) rfl) ?_
  show Go p e below _ (s₁.setTop (mkF m 51 #[.val (.long q0), .second, .val (.int p1), .val (.long q2), .second, .val (.int p3), .val (.long q4), .second, .val (.int p5), .val (.long t0), .second, .val (.long t1), .second, .val (.long t2), .second, .val (.int e0v), .val (.int e1v), .unset, .unset, .unset, .unset, .unset, .unset, .unset] [(.long (p3.toInt64))]))
  refine Go.st (fun _ => X0.ldc2Long hx hown (mvT hZ (hw _ (List.mem_of_getElem? (i := 0) rfl))) (g := (mkF m 51 #[.val (.long q0), .second, .val (.int p1), .val (.long q2), .second, .val (.int p3), .val (.long q4), .second, .val (.int p5), .val (.long t0), .second, .val (.long t1), .second, .val (.long t2), .second, .val (.int e0v), .val (.int e1v), .unset, .unset, .unset, .unset, .unset, .unset, .unset] [(.long (p3.toInt64))])) rfl (hb hby at_51) _) ?_
  show Go p e below _ (s₁.setTop (mkF m 54 #[.val (.long q0), .second, .val (.int p1), .val (.long q2), .second, .val (.int p3), .val (.long q4), .second, .val (.int p5), .val (.long t0), .second, .val (.long t1), .second, .val (.long t2), .second, .val (.int e0v), .val (.int e1v), .unset, .unset, .unset, .unset, .unset, .unset, .unset] [(.long (4294967295 : Int64)), (.long (p3.toInt64))]))
  refine Go.st (fun _ => XS.land X0.here hx rfl (hb hby at_54) rfl) ?_
  show Go p e below _ (s₁.setTop (mkF m 55 #[.val (.long q0), .second, .val (.int p1), .val (.long q2), .second, .val (.int p3), .val (.long q4), .second, .val (.int p5), .val (.long t0), .second, .val (.long t1), .second, .val (.long t2), .second, .val (.int e0v), .val (.int e1v), .unset, .unset, .unset, .unset, .unset, .unset, .unset] [(.long ((p3.toInt64) &&& (4294967295 : Int64)))]))
  refine Go.st (fun _ => XS.lload X0.here hx rfl (hb hby at_55) rfl) ?_
  show Go p e below _ (s₁.setTop (mkF m 57 #[.val (.long q0), .second, .val (.int p1), .val (.long q2), .second, .val (.int p3), .val (.long q4), .second, .val (.int p5), .val (.long t0), .second, .val (.long t1), .second, .val (.long t2), .second, .val (.int e0v), .val (.int e1v), .unset, .unset, .unset, .unset, .unset, .unset, .unset] [(.long t2), (.long ((p3.toInt64) &&& (4294967295 : Int64)))]))
  refine Go.st (fun _ => XS.lrem X0.here hx rfl (hb hby at_57) rfl T2T.1) ?_
  show Go p e below _ (s₁.setTop (mkF m 58 #[.val (.long q0), .second, .val (.int p1), .val (.long q2), .second, .val (.int p3), .val (.long q4), .second, .val (.int p5), .val (.long t0), .second, .val (.long t1), .second, .val (.long t2), .second, .val (.int e0v), .val (.int e1v), .unset, .unset, .unset, .unset, .unset, .unset, .unset] [(.long (((p3.toInt64) &&& (4294967295 : Int64)) - (((p3.toInt64) &&& (4294967295 : Int64)) / t2) * t2))]))
  refine Go.st (fun _ => XS.l2i X0.here hx rfl (hb hby at_58) rfl) ?_
  show Go p e below _ (s₁.setTop (mkF m 59 #[.val (.long q0), .second, .val (.int p1), .val (.long q2), .second, .val (.int p3), .val (.long q4), .second, .val (.int p5), .val (.long t0), .second, .val (.long t1), .second, .val (.long t2), .second, .val (.int e0v), .val (.int e1v), .unset, .unset, .unset, .unset, .unset, .unset, .unset] [(.int ((((p3.toInt64) &&& (4294967295 : Int64)) - (((p3.toInt64) &&& (4294967295 : Int64)) / t2) * t2).toInt32))]))
  refine Go.st (fun _ => XS.istore X0.here hx rfl (hb hby at_59) rfl (l' := #[.val (.long q0), .second, .val (.int p1), .val (.long q2), .second, .val (.int p3), .val (.long q4), .second, .val (.int p5), .val (.long t0), .second, .val (.long t1), .second, .val (.long t2), .second, .val (.int e0v), .val (.int e1v), .val (.int ((((p3.toInt64) &&& (4294967295 : Int64)) - (((p3.toInt64) &&& (4294967295 : Int64)) / t2) * t2).toInt32)), .unset, .unset, .unset, .unset, .unset, .unset]) rfl) ?_
  show Go p e below _ (s₁.setTop (mkF m 61 #[.val (.long q0), .second, .val (.int p1), .val (.long q2), .second, .val (.int p3), .val (.long q4), .second, .val (.int p5), .val (.long t0), .second, .val (.long t1), .second, .val (.long t2), .second, .val (.int e0v), .val (.int e1v), .val (.int ((((p3.toInt64) &&& (4294967295 : Int64)) - (((p3.toInt64) &&& (4294967295 : Int64)) / t2) * t2).toInt32)), .unset, .unset, .unset, .unset, .unset, .unset] []))
  obtain ⟨e2v, he2⟩ : ∃ z, z = ((((p3.toInt64) &&& (4294967295 : Int64)) - (((p3.toInt64) &&& (4294967295 : Int64)) / t2) * t2).toInt32) := ⟨_, rfl⟩
  rw [← he2]
  have R2R := own_rem (own_m32 p3.toInt64).1 T2T
  show Go p e below _ (s₁.setTop (mkF m 61 #[.val (.long q0), .second, .val (.int p1), .val (.long q2), .second, .val (.int p3), .val (.long q4), .second, .val (.int p5), .val (.long t0), .second, .val (.long t1), .second, .val (.long t2), .second, .val (.int e0v), .val (.int e1v), .val (.int e2v), .unset, .unset, .unset, .unset, .unset, .unset] []))
  refine Go.st (fun _ => XS.iload X0.here hx rfl (hb hby at_61) rfl) ?_
  show Go p e below _ (s₁.setTop (mkF m 63 #[.val (.long q0), .second, .val (.int p1), .val (.long q2), .second, .val (.int p3), .val (.long q4), .second, .val (.int p5), .val (.long t0), .second, .val (.long t1), .second, .val (.long t2), .second, .val (.int e0v), .val (.int e1v), .val (.int e2v), .unset, .unset, .unset, .unset, .unset, .unset] [(.int p5)]))
  refine Go.st (fun _ => XS.iconst X0.here hx rfl (hb hby at_63)) ?_
  show Go p e below _ (s₁.setTop (mkF m 64 #[.val (.long q0), .second, .val (.int p1), .val (.long q2), .second, .val (.int p3), .val (.long q4), .second, .val (.int p5), .val (.long t0), .second, .val (.long t1), .second, .val (.long t2), .second, .val (.int e0v), .val (.int e1v), .val (.int e2v), .unset, .unset, .unset, .unset, .unset, .unset] [(.int (3 : Int32)), (.int p5)]))
  refine Go.st (fun _ => XS.iand X0.here hx rfl (hb hby at_64) rfl) ?_
  show Go p e below _ (s₁.setTop (mkF m 65 #[.val (.long q0), .second, .val (.int p1), .val (.long q2), .second, .val (.int p3), .val (.long q4), .second, .val (.int p5), .val (.long t0), .second, .val (.long t1), .second, .val (.long t2), .second, .val (.int e0v), .val (.int e1v), .val (.int e2v), .unset, .unset, .unset, .unset, .unset, .unset] [(.int (p5 &&& (3 : Int32)))]))
  refine Go.st (fun _ => XS.istore X0.here hx rfl (hb hby at_65) rfl (l' := #[.val (.long q0), .second, .val (.int p1), .val (.long q2), .second, .val (.int p3), .val (.long q4), .second, .val (.int p5), .val (.long t0), .second, .val (.long t1), .second, .val (.long t2), .second, .val (.int e0v), .val (.int e1v), .val (.int e2v), .val (.int (p5 &&& (3 : Int32))), .unset, .unset, .unset, .unset, .unset]) rfl) ?_
  show Go p e below _ (s₁.setTop (mkF m 67 #[.val (.long q0), .second, .val (.int p1), .val (.long q2), .second, .val (.int p3), .val (.long q4), .second, .val (.int p5), .val (.long t0), .second, .val (.long t1), .second, .val (.long t2), .second, .val (.int e0v), .val (.int e1v), .val (.int e2v), .val (.int (p5 &&& (3 : Int32))), .unset, .unset, .unset, .unset, .unset] []))
  refine Go.st (fun _ => XS.iload X0.here hx rfl (hb hby at_67) rfl) ?_
  show Go p e below _ (s₁.setTop (mkF m 69 #[.val (.long q0), .second, .val (.int p1), .val (.long q2), .second, .val (.int p3), .val (.long q4), .second, .val (.int p5), .val (.long t0), .second, .val (.long t1), .second, .val (.long t2), .second, .val (.int e0v), .val (.int e1v), .val (.int e2v), .val (.int (p5 &&& (3 : Int32))), .unset, .unset, .unset, .unset, .unset] [(.int p5)]))
  refine Go.st (fun _ => XS.iconst X0.here hx rfl (hb hby at_69)) ?_
  show Go p e below _ (s₁.setTop (mkF m 70 #[.val (.long q0), .second, .val (.int p1), .val (.long q2), .second, .val (.int p3), .val (.long q4), .second, .val (.int p5), .val (.long t0), .second, .val (.long t1), .second, .val (.long t2), .second, .val (.int e0v), .val (.int e1v), .val (.int e2v), .val (.int (p5 &&& (3 : Int32))), .unset, .unset, .unset, .unset, .unset] [(.int (2 : Int32)), (.int p5)]))
  refine Go.st (fun _ => XS.iushr X0.here hx rfl (hb hby at_70) rfl) ?_
  show Go p e below _ (s₁.setTop (mkF m 71 #[.val (.long q0), .second, .val (.int p1), .val (.long q2), .second, .val (.int p3), .val (.long q4), .second, .val (.int p5), .val (.long t0), .second, .val (.long t1), .second, .val (.long t2), .second, .val (.int e0v), .val (.int e1v), .val (.int e2v), .val (.int (p5 &&& (3 : Int32))), .unset, .unset, .unset, .unset, .unset] [(.int ((p5.toUInt32 >>> ((2 : Int32) &&& 31).toUInt32).toInt32))]))
  refine Go.st (fun _ => XS.iconst X0.here hx rfl (hb hby at_71)) ?_
  show Go p e below _ (s₁.setTop (mkF m 72 #[.val (.long q0), .second, .val (.int p1), .val (.long q2), .second, .val (.int p3), .val (.long q4), .second, .val (.int p5), .val (.long t0), .second, .val (.long t1), .second, .val (.long t2), .second, .val (.int e0v), .val (.int e1v), .val (.int e2v), .val (.int (p5 &&& (3 : Int32))), .unset, .unset, .unset, .unset, .unset] [(.int (3 : Int32)), (.int ((p5.toUInt32 >>> ((2 : Int32) &&& 31).toUInt32).toInt32))]))
  refine Go.st (fun _ => XS.iand X0.here hx rfl (hb hby at_72) rfl) ?_
  show Go p e below _ (s₁.setTop (mkF m 73 #[.val (.long q0), .second, .val (.int p1), .val (.long q2), .second, .val (.int p3), .val (.long q4), .second, .val (.int p5), .val (.long t0), .second, .val (.long t1), .second, .val (.long t2), .second, .val (.int e0v), .val (.int e1v), .val (.int e2v), .val (.int (p5 &&& (3 : Int32))), .unset, .unset, .unset, .unset, .unset] [(.int (((p5.toUInt32 >>> ((2 : Int32) &&& 31).toUInt32).toInt32) &&& (3 : Int32)))]))
  refine Go.st (fun _ => XS.istore X0.here hx rfl (hb hby at_73) rfl (l' := #[.val (.long q0), .second, .val (.int p1), .val (.long q2), .second, .val (.int p3), .val (.long q4), .second, .val (.int p5), .val (.long t0), .second, .val (.long t1), .second, .val (.long t2), .second, .val (.int e0v), .val (.int e1v), .val (.int e2v), .val (.int (p5 &&& (3 : Int32))), .val (.int (((p5.toUInt32 >>> ((2 : Int32) &&& 31).toUInt32).toInt32) &&& (3 : Int32))), .unset, .unset, .unset, .unset]) rfl) ?_
  show Go p e below _ (s₁.setTop (mkF m 75 #[.val (.long q0), .second, .val (.int p1), .val (.long q2), .second, .val (.int p3), .val (.long q4), .second, .val (.int p5), .val (.long t0), .second, .val (.long t1), .second, .val (.long t2), .second, .val (.int e0v), .val (.int e1v), .val (.int e2v), .val (.int (p5 &&& (3 : Int32))), .val (.int (((p5.toUInt32 >>> ((2 : Int32) &&& 31).toUInt32).toInt32) &&& (3 : Int32))), .unset, .unset, .unset, .unset] []))
  obtain ⟨po, hpo⟩ : ∃ z, z = (((p5.toUInt32 >>> ((2 : Int32) &&& 31).toUInt32).toInt32) &&& (3 : Int32)) := ⟨_, rfl⟩
  rw [← hpo]
  have hpb : 0 ≤ po.toInt ∧ po.toInt ≤ 3 := by rw [hpo]; exact own_off _
  show Go p e below _ (s₁.setTop (mkF m 75 #[.val (.long q0), .second, .val (.int p1), .val (.long q2), .second, .val (.int p3), .val (.long q4), .second, .val (.int p5), .val (.long t0), .second, .val (.long t1), .second, .val (.long t2), .second, .val (.int e0v), .val (.int e1v), .val (.int e2v), .val (.int (p5 &&& (3 : Int32))), .val (.int po), .unset, .unset, .unset, .unset] []))
  obtain ⟨T1, h1, X1, e1, E1, A1, D1, U1, st1⟩ := newO X0 hx hZ hown (hw _ (List.mem_of_getElem? (i := 1) rfl)) (hw _ (List.mem_of_getElem? (i := 2) rfl)) (hw _ (List.mem_of_getElem? (i := 3) rfl)) e0 (g := (mkF m 75 #[.val (.long q0), .second, .val (.int p1), .val (.long q2), .second, .val (.int p3), .val (.long q4), .second, .val (.int p5), .val (.long t0), .second, .val (.long t1), .second, .val (.long t2), .second, .val (.int e0v), .val (.int e1v), .val (.int e2v), .val (.int (p5 &&& (3 : Int32))), .val (.int po), .unset, .unset, .unset, .unset] [])) rfl (hb hby at_75) (by decide) (by decide)
  obtain ⟨b1, g1⟩ : ∃ z, z = h0.size := ⟨_, rfl⟩
  rw [← g1] at A1 D1 U1 st1
  refine Go.st st1 ?_
  have gn1 : n0 ≤ b1 := oldGe O0 g1
  have O2 : Old Z n0 h1 := O0.ext E1
  have F3 : Fld Z h1 b1 "com/example/gieres/gieres/model/TupleTable" "pages" "[[J" .null := D1 (Or.inl (hw _ (List.mem_of_getElem? (i := 14) rfl))) (ty := (.array (.array .long))) (by decide)
  have F4 : Fld Z h1 b1 "com/example/gieres/gieres/model/TupleTable" "slotBits" "I" (.int (0 : Int32)) := D1 (Or.inl (hw _ (List.mem_of_getElem? (i := 16) rfl))) (ty := .int) (by decide)
  have F5 : Fld Z h1 b1 "com/example/gieres/gieres/model/TupleTable" "slots" "[I" .null := D1 (Or.inl (hw _ (List.mem_of_getElem? (i := 19) rfl))) (ty := (.array .int)) (by decide)
  have F6 : Fld Z h1 b1 "com/example/gieres/gieres/model/TupleTable" "hashes" "[J" .null := D1 (Or.inl (hw _ (List.mem_of_getElem? (i := 21) rfl))) (ty := (.array .long)) (by decide)
  have F7 : Fld Z h1 b1 "com/example/gieres/gieres/model/TupleTable" "found" "[I" .null := D1 (Or.inl (hw _ (List.mem_of_getElem? (i := 23) rfl))) (ty := (.array .int)) (by decide)
  have F8 : Fld Z h1 b1 "com/example/gieres/gieres/model/TupleTable" "word" "[I" .null := D1 (Or.inr (hw _ (List.mem_of_getElem? (i := 25) rfl))) (ty := (.array .int)) (by decide)
  have F9 : Fld Z h1 b1 "com/example/gieres/gieres/model/TupleTable" "shift" "[I" .null := D1 (Or.inr (hw _ (List.mem_of_getElem? (i := 27) rfl))) (ty := (.array .int)) (by decide)
  have F10 : Fld Z h1 b1 "com/example/gieres/gieres/model/TupleTable" "mask" "[J" .null := D1 (Or.inr (hw _ (List.mem_of_getElem? (i := 29) rfl))) (ty := (.array .long)) (by decide)
  have F11 : Fld Z h1 b1 "com/example/gieres/gieres/model/TupleTable" "width" "I" (.int (0 : Int32)) := D1 (Or.inr (hw _ (List.mem_of_getElem? (i := 40) rfl))) (ty := .int) (by decide)
  show Go p e below _ (T1.setTop (mkF m 78 #[.val (.long q0), .second, .val (.int p1), .val (.long q2), .second, .val (.int p3), .val (.long q4), .second, .val (.int p5), .val (.long t0), .second, .val (.long t1), .second, .val (.long t2), .second, .val (.int e0v), .val (.int e1v), .val (.int e2v), .val (.int (p5 &&& (3 : Int32))), .val (.int po), .unset, .unset, .unset, .unset] [(.ref b1)]))
  refine Go.st (fun _ => XS.dup X1.here hx rfl (hb hby at_78) rfl rfl) ?_
  show Go p e below _ (T1.setTop (mkF m 79 #[.val (.long q0), .second, .val (.int p1), .val (.long q2), .second, .val (.int p3), .val (.long q4), .second, .val (.int p5), .val (.long t0), .second, .val (.long t1), .second, .val (.long t2), .second, .val (.int e0v), .val (.int e1v), .val (.int e2v), .val (.int (p5 &&& (3 : Int32))), .val (.int po), .unset, .unset, .unset, .unset] [(.ref b1), (.ref b1)]))
  refine Go.st (fun _ => XS.iconst X1.here hx rfl (hb hby at_79)) ?_
  show Go p e below _ (T1.setTop (mkF m 80 #[.val (.long q0), .second, .val (.int p1), .val (.long q2), .second, .val (.int p3), .val (.long q4), .second, .val (.int p5), .val (.long t0), .second, .val (.long t1), .second, .val (.long t2), .second, .val (.int e0v), .val (.int e1v), .val (.int e2v), .val (.int (p5 &&& (3 : Int32))), .val (.int po), .unset, .unset, .unset, .unset] [(.int (3 : Int32)), (.ref b1), (.ref b1)]))
  obtain ⟨T12, h12, k12, X12, e12, E12, A12, st12⟩ := newP X1 hx hZ (hw _ (List.mem_of_getElem? (i := 4) rfl)) e1 (g := (mkF m 80 #[.val (.long q0), .second, .val (.int p1), .val (.long q2), .second, .val (.int p3), .val (.long q4), .second, .val (.int p5), .val (.long t0), .second, .val (.long t1), .second, .val (.long t2), .second, .val (.int e0v), .val (.int e1v), .val (.int e2v), .val (.int (p5 &&& (3 : Int32))), .val (.int po), .unset, .unset, .unset, .unset] [(.int (3 : Int32)), (.ref b1), (.ref b1)])) rfl (hb hby at_80) rfl (by decide) (cap := 3) (by decide) (by decide) (by decide) (by decide)
  obtain ⟨b12, g12⟩ : ∃ z, z = h1.size := ⟨_, rfl⟩
  rw [← g12] at A12 st12
  refine Go.st st12 ?_
  have gn12 : n0 ≤ b12 := oldGe O2 g12
  have ne13 : b1 ≠ b12 := Nat.ne_of_lt (Nat.lt_of_lt_of_le A1.lt (Nat.le_of_eq g12.symm))
  have O14 : Old Z n0 h12 := O2.ext E12
  have E_15 : Exa Z h12 b1 "com/example/gieres/gieres/model/TupleTable" := A1.ext E12
  have F16 : Fld Z h12 b1 "com/example/gieres/gieres/model/TupleTable" "pages" "[[J" .null := F3.ext E12
  have F17 : Fld Z h12 b1 "com/example/gieres/gieres/model/TupleTable" "slotBits" "I" (.int (0 : Int32)) := F4.ext E12
  have F18 : Fld Z h12 b1 "com/example/gieres/gieres/model/TupleTable" "slots" "[I" .null := F5.ext E12
  have F19 : Fld Z h12 b1 "com/example/gieres/gieres/model/TupleTable" "hashes" "[J" .null := F6.ext E12
  have F20 : Fld Z h12 b1 "com/example/gieres/gieres/model/TupleTable" "found" "[I" .null := F7.ext E12
  have F21 : Fld Z h12 b1 "com/example/gieres/gieres/model/TupleTable" "word" "[I" .null := F8.ext E12
  have F22 : Fld Z h12 b1 "com/example/gieres/gieres/model/TupleTable" "shift" "[I" .null := F9.ext E12
  have F23 : Fld Z h12 b1 "com/example/gieres/gieres/model/TupleTable" "mask" "[J" .null := F10.ext E12
  have F24 : Fld Z h12 b1 "com/example/gieres/gieres/model/TupleTable" "width" "I" (.int (0 : Int32)) := F11.ext E12
  have V_25 : Arv Z h12 b12 k12 .long (3 : Int32) [(.long (0 : Int64)), (.long (0 : Int64)), (.long (0 : Int64))] (.long (0 : Int64)) := (Arv.new A12 (by decide)).pad (pad_rep [] (.long (0 : Int64)) 3)
  show Go p e below _ (T12.setTop (mkF m 82 #[.val (.long q0), .second, .val (.int p1), .val (.long q2), .second, .val (.int p3), .val (.long q4), .second, .val (.int p5), .val (.long t0), .second, .val (.long t1), .second, .val (.long t2), .second, .val (.int e0v), .val (.int e1v), .val (.int e2v), .val (.int (p5 &&& (3 : Int32))), .val (.int po), .unset, .unset, .unset, .unset] [(.ref b12), (.ref b1), (.ref b1)]))
  refine Go.st (fun _ => XS.dup X12.here hx rfl (hb hby at_82) rfl rfl) ?_
  show Go p e below _ (T12.setTop (mkF m 83 #[.val (.long q0), .second, .val (.int p1), .val (.long q2), .second, .val (.int p3), .val (.long q4), .second, .val (.int p5), .val (.long t0), .second, .val (.long t1), .second, .val (.long t2), .second, .val (.int e0v), .val (.int e1v), .val (.int e2v), .val (.int (p5 &&& (3 : Int32))), .val (.int po), .unset, .unset, .unset, .unset] [(.ref b12), (.ref b12), (.ref b1), (.ref b1)]))
  refine Go.st (fun _ => XS.iconst X12.here hx rfl (hb hby at_83)) ?_
  show Go p e below _ (T12.setTop (mkF m 84 #[.val (.long q0), .second, .val (.int p1), .val (.long q2), .second, .val (.int p3), .val (.long q4), .second, .val (.int p5), .val (.long t0), .second, .val (.long t1), .second, .val (.long t2), .second, .val (.int e0v), .val (.int e1v), .val (.int e2v), .val (.int (p5 &&& (3 : Int32))), .val (.int po), .unset, .unset, .unset, .unset] [(.int (0 : Int32)), (.ref b12), (.ref b12), (.ref b1), (.ref b1)]))
  refine Go.st (fun _ => XS.lload X12.here hx rfl (hb hby at_84) rfl) ?_
  show Go p e below _ (T12.setTop (mkF m 86 #[.val (.long q0), .second, .val (.int p1), .val (.long q2), .second, .val (.int p3), .val (.long q4), .second, .val (.int p5), .val (.long t0), .second, .val (.long t1), .second, .val (.long t2), .second, .val (.int e0v), .val (.int e1v), .val (.int e2v), .val (.int (p5 &&& (3 : Int32))), .val (.int po), .unset, .unset, .unset, .unset] [(.long t0), (.int (0 : Int32)), (.ref b12), (.ref b12), (.ref b1), (.ref b1)]))
  obtain ⟨cl26, Ar26, qk26, Sz26, Nn26, Ha26, Ga26⟩ := id V_25
  have hin26 : ¬ ((0 : Int32) < 0 ∨ cl26.slots.size ≤ ((0 : Int32) : Int32).toNatClampNeg) := inb_of Sz26 ⟨by decide, by decide⟩
  obtain ⟨T26, h26, X26, e26, W26, st26⟩ := stJ X12 hx hZ e12 Ar26 (j := (0 : Int32)) hin26 (g := (mkF m 86 #[.val (.long q0), .second, .val (.int p1), .val (.long q2), .second, .val (.int p3), .val (.long q4), .second, .val (.int p5), .val (.long t0), .second, .val (.long t1), .second, .val (.long t2), .second, .val (.int e0v), .val (.int e1v), .val (.int e2v), .val (.int (p5 &&& (3 : Int32))), .val (.int po), .unset, .unset, .unset, .unset] [(.long t0), (.int (0 : Int32)), (.ref b12), (.ref b12), (.ref b1), (.ref b1)])) rfl rfl (hb hby at_86)
  refine Go.st st26 ?_
  have O27 : Old Z n0 h26 := O14.wr W26 gn12
  have E_28 : Exa Z h26 b1 "com/example/gieres/gieres/model/TupleTable" := E_15.wr W26
  have F29 : Fld Z h26 b1 "com/example/gieres/gieres/model/TupleTable" "pages" "[[J" .null := F16.other W26 (Or.inl ne13)
  have F30 : Fld Z h26 b1 "com/example/gieres/gieres/model/TupleTable" "slotBits" "I" (.int (0 : Int32)) := F17.other W26 (Or.inl ne13)
  have F31 : Fld Z h26 b1 "com/example/gieres/gieres/model/TupleTable" "slots" "[I" .null := F18.other W26 (Or.inl ne13)
  have F32 : Fld Z h26 b1 "com/example/gieres/gieres/model/TupleTable" "hashes" "[J" .null := F19.other W26 (Or.inl ne13)
  have F33 : Fld Z h26 b1 "com/example/gieres/gieres/model/TupleTable" "found" "[I" .null := F20.other W26 (Or.inl ne13)
  have F34 : Fld Z h26 b1 "com/example/gieres/gieres/model/TupleTable" "word" "[I" .null := F21.other W26 (Or.inl ne13)
  have F35 : Fld Z h26 b1 "com/example/gieres/gieres/model/TupleTable" "shift" "[I" .null := F22.other W26 (Or.inl ne13)
  have F36 : Fld Z h26 b1 "com/example/gieres/gieres/model/TupleTable" "mask" "[J" .null := F23.other W26 (Or.inl ne13)
  have F37 : Fld Z h26 b1 "com/example/gieres/gieres/model/TupleTable" "width" "I" (.int (0 : Int32)) := F24.other W26 (Or.inl ne13)
  have V_38 : Arv Z h26 b12 k12 .long (3 : Int32) [(.long t0), (.long (0 : Int64)), (.long (0 : Int64))] (.long (0 : Int64)) := Arv.set Ar26 qk26 Sz26 Nn26 Ha26 Ga26 rfl W26 0 rfl (Nat.le_of_ble_eq_true rfl)
  have N26 := Fr.snoc X26 N0 gn12
  show Go p e below _ (T26.setTop (mkF m 87 #[.val (.long q0), .second, .val (.int p1), .val (.long q2), .second, .val (.int p3), .val (.long q4), .second, .val (.int p5), .val (.long t0), .second, .val (.long t1), .second, .val (.long t2), .second, .val (.int e0v), .val (.int e1v), .val (.int e2v), .val (.int (p5 &&& (3 : Int32))), .val (.int po), .unset, .unset, .unset, .unset] [(.ref b12), (.ref b1), (.ref b1)]))
  refine Go.st (fun _ => XS.dup X26.here hx rfl (hb hby at_87) rfl rfl) ?_
  show Go p e below _ (T26.setTop (mkF m 88 #[.val (.long q0), .second, .val (.int p1), .val (.long q2), .second, .val (.int p3), .val (.long q4), .second, .val (.int p5), .val (.long t0), .second, .val (.long t1), .second, .val (.long t2), .second, .val (.int e0v), .val (.int e1v), .val (.int e2v), .val (.int (p5 &&& (3 : Int32))), .val (.int po), .unset, .unset, .unset, .unset] [(.ref b12), (.ref b12), (.ref b1), (.ref b1)]))
  refine Go.st (fun _ => XS.iconst X26.here hx rfl (hb hby at_88)) ?_
  show Go p e below _ (T26.setTop (mkF m 89 #[.val (.long q0), .second, .val (.int p1), .val (.long q2), .second, .val (.int p3), .val (.long q4), .second, .val (.int p5), .val (.long t0), .second, .val (.long t1), .second, .val (.long t2), .second, .val (.int e0v), .val (.int e1v), .val (.int e2v), .val (.int (p5 &&& (3 : Int32))), .val (.int po), .unset, .unset, .unset, .unset] [(.int (1 : Int32)), (.ref b12), (.ref b12), (.ref b1), (.ref b1)]))
  refine Go.st (fun _ => XS.lload X26.here hx rfl (hb hby at_89) rfl) ?_
  show Go p e below _ (T26.setTop (mkF m 91 #[.val (.long q0), .second, .val (.int p1), .val (.long q2), .second, .val (.int p3), .val (.long q4), .second, .val (.int p5), .val (.long t0), .second, .val (.long t1), .second, .val (.long t2), .second, .val (.int e0v), .val (.int e1v), .val (.int e2v), .val (.int (p5 &&& (3 : Int32))), .val (.int po), .unset, .unset, .unset, .unset] [(.long t1), (.int (1 : Int32)), (.ref b12), (.ref b12), (.ref b1), (.ref b1)]))
  obtain ⟨cl39, Ar39, qk39, Sz39, Nn39, Ha39, Ga39⟩ := id V_38
  have hin39 : ¬ ((1 : Int32) < 0 ∨ cl39.slots.size ≤ ((1 : Int32) : Int32).toNatClampNeg) := inb_of Sz39 ⟨by decide, by decide⟩
  obtain ⟨T39, h39, X39, e39, W39, st39⟩ := stJ X26 hx hZ e26 Ar39 (j := (1 : Int32)) hin39 (g := (mkF m 91 #[.val (.long q0), .second, .val (.int p1), .val (.long q2), .second, .val (.int p3), .val (.long q4), .second, .val (.int p5), .val (.long t0), .second, .val (.long t1), .second, .val (.long t2), .second, .val (.int e0v), .val (.int e1v), .val (.int e2v), .val (.int (p5 &&& (3 : Int32))), .val (.int po), .unset, .unset, .unset, .unset] [(.long t1), (.int (1 : Int32)), (.ref b12), (.ref b12), (.ref b1), (.ref b1)])) rfl rfl (hb hby at_91)
  refine Go.st st39 ?_
  have O40 : Old Z n0 h39 := O27.wr W39 gn12
  have E_41 : Exa Z h39 b1 "com/example/gieres/gieres/model/TupleTable" := E_28.wr W39
  have F42 : Fld Z h39 b1 "com/example/gieres/gieres/model/TupleTable" "pages" "[[J" .null := F29.other W39 (Or.inl ne13)
  have F43 : Fld Z h39 b1 "com/example/gieres/gieres/model/TupleTable" "slotBits" "I" (.int (0 : Int32)) := F30.other W39 (Or.inl ne13)
  have F44 : Fld Z h39 b1 "com/example/gieres/gieres/model/TupleTable" "slots" "[I" .null := F31.other W39 (Or.inl ne13)
  have F45 : Fld Z h39 b1 "com/example/gieres/gieres/model/TupleTable" "hashes" "[J" .null := F32.other W39 (Or.inl ne13)
  have F46 : Fld Z h39 b1 "com/example/gieres/gieres/model/TupleTable" "found" "[I" .null := F33.other W39 (Or.inl ne13)
  have F47 : Fld Z h39 b1 "com/example/gieres/gieres/model/TupleTable" "word" "[I" .null := F34.other W39 (Or.inl ne13)
  have F48 : Fld Z h39 b1 "com/example/gieres/gieres/model/TupleTable" "shift" "[I" .null := F35.other W39 (Or.inl ne13)
  have F49 : Fld Z h39 b1 "com/example/gieres/gieres/model/TupleTable" "mask" "[J" .null := F36.other W39 (Or.inl ne13)
  have F50 : Fld Z h39 b1 "com/example/gieres/gieres/model/TupleTable" "width" "I" (.int (0 : Int32)) := F37.other W39 (Or.inl ne13)
  have V_51 : Arv Z h39 b12 k12 .long (3 : Int32) [(.long t0), (.long t1), (.long (0 : Int64))] (.long (0 : Int64)) := Arv.set Ar39 qk39 Sz39 Nn39 Ha39 Ga39 rfl W39 1 rfl (Nat.le_of_ble_eq_true rfl)
  have N39 := Fr.snoc X39 N26 gn12
  show Go p e below _ (T39.setTop (mkF m 92 #[.val (.long q0), .second, .val (.int p1), .val (.long q2), .second, .val (.int p3), .val (.long q4), .second, .val (.int p5), .val (.long t0), .second, .val (.long t1), .second, .val (.long t2), .second, .val (.int e0v), .val (.int e1v), .val (.int e2v), .val (.int (p5 &&& (3 : Int32))), .val (.int po), .unset, .unset, .unset, .unset] [(.ref b12), (.ref b1), (.ref b1)]))
  refine Go.st (fun _ => XS.dup X39.here hx rfl (hb hby at_92) rfl rfl) ?_
  show Go p e below _ (T39.setTop (mkF m 93 #[.val (.long q0), .second, .val (.int p1), .val (.long q2), .second, .val (.int p3), .val (.long q4), .second, .val (.int p5), .val (.long t0), .second, .val (.long t1), .second, .val (.long t2), .second, .val (.int e0v), .val (.int e1v), .val (.int e2v), .val (.int (p5 &&& (3 : Int32))), .val (.int po), .unset, .unset, .unset, .unset] [(.ref b12), (.ref b12), (.ref b1), (.ref b1)]))
  refine Go.st (fun _ => XS.iconst X39.here hx rfl (hb hby at_93)) ?_
  show Go p e below _ (T39.setTop (mkF m 94 #[.val (.long q0), .second, .val (.int p1), .val (.long q2), .second, .val (.int p3), .val (.long q4), .second, .val (.int p5), .val (.long t0), .second, .val (.long t1), .second, .val (.long t2), .second, .val (.int e0v), .val (.int e1v), .val (.int e2v), .val (.int (p5 &&& (3 : Int32))), .val (.int po), .unset, .unset, .unset, .unset] [(.int (2 : Int32)), (.ref b12), (.ref b12), (.ref b1), (.ref b1)]))
  refine Go.st (fun _ => XS.lload X39.here hx rfl (hb hby at_94) rfl) ?_
  show Go p e below _ (T39.setTop (mkF m 96 #[.val (.long q0), .second, .val (.int p1), .val (.long q2), .second, .val (.int p3), .val (.long q4), .second, .val (.int p5), .val (.long t0), .second, .val (.long t1), .second, .val (.long t2), .second, .val (.int e0v), .val (.int e1v), .val (.int e2v), .val (.int (p5 &&& (3 : Int32))), .val (.int po), .unset, .unset, .unset, .unset] [(.long t2), (.int (2 : Int32)), (.ref b12), (.ref b12), (.ref b1), (.ref b1)]))
  obtain ⟨cl52, Ar52, qk52, Sz52, Nn52, Ha52, Ga52⟩ := id V_51
  have hin52 : ¬ ((2 : Int32) < 0 ∨ cl52.slots.size ≤ ((2 : Int32) : Int32).toNatClampNeg) := inb_of Sz52 ⟨by decide, by decide⟩
  obtain ⟨T52, h52, X52, e52, W52, st52⟩ := stJ X39 hx hZ e39 Ar52 (j := (2 : Int32)) hin52 (g := (mkF m 96 #[.val (.long q0), .second, .val (.int p1), .val (.long q2), .second, .val (.int p3), .val (.long q4), .second, .val (.int p5), .val (.long t0), .second, .val (.long t1), .second, .val (.long t2), .second, .val (.int e0v), .val (.int e1v), .val (.int e2v), .val (.int (p5 &&& (3 : Int32))), .val (.int po), .unset, .unset, .unset, .unset] [(.long t2), (.int (2 : Int32)), (.ref b12), (.ref b12), (.ref b1), (.ref b1)])) rfl rfl (hb hby at_96)
  refine Go.st st52 ?_
  have O53 : Old Z n0 h52 := O40.wr W52 gn12
  have E_54 : Exa Z h52 b1 "com/example/gieres/gieres/model/TupleTable" := E_41.wr W52
  have F55 : Fld Z h52 b1 "com/example/gieres/gieres/model/TupleTable" "pages" "[[J" .null := F42.other W52 (Or.inl ne13)
  have F56 : Fld Z h52 b1 "com/example/gieres/gieres/model/TupleTable" "slotBits" "I" (.int (0 : Int32)) := F43.other W52 (Or.inl ne13)
  have F57 : Fld Z h52 b1 "com/example/gieres/gieres/model/TupleTable" "slots" "[I" .null := F44.other W52 (Or.inl ne13)
  have F58 : Fld Z h52 b1 "com/example/gieres/gieres/model/TupleTable" "hashes" "[J" .null := F45.other W52 (Or.inl ne13)
  have F59 : Fld Z h52 b1 "com/example/gieres/gieres/model/TupleTable" "found" "[I" .null := F46.other W52 (Or.inl ne13)
  have F60 : Fld Z h52 b1 "com/example/gieres/gieres/model/TupleTable" "word" "[I" .null := F47.other W52 (Or.inl ne13)
  have F61 : Fld Z h52 b1 "com/example/gieres/gieres/model/TupleTable" "shift" "[I" .null := F48.other W52 (Or.inl ne13)
  have F62 : Fld Z h52 b1 "com/example/gieres/gieres/model/TupleTable" "mask" "[J" .null := F49.other W52 (Or.inl ne13)
  have F63 : Fld Z h52 b1 "com/example/gieres/gieres/model/TupleTable" "width" "I" (.int (0 : Int32)) := F50.other W52 (Or.inl ne13)
  have V_64 : Arv Z h52 b12 k12 .long (3 : Int32) [(.long t0), (.long t1), (.long t2)] (.long (0 : Int64)) := Arv.set Ar52 qk52 Sz52 Nn52 Ha52 Ga52 rfl W52 2 rfl (Nat.le_of_ble_eq_true rfl)
  have N52 := Fr.snoc X52 N39 gn12
  show Go p e below _ (T52.setTop (mkF m 97 #[.val (.long q0), .second, .val (.int p1), .val (.long q2), .second, .val (.int p3), .val (.long q4), .second, .val (.int p5), .val (.long t0), .second, .val (.long t1), .second, .val (.long t2), .second, .val (.int e0v), .val (.int e1v), .val (.int e2v), .val (.int (p5 &&& (3 : Int32))), .val (.int po), .unset, .unset, .unset, .unset] [(.ref b12), (.ref b1), (.ref b1)]))
  refine goInit X52 hx hZ (y := (⟨"com/example/gieres/gieres/model/TupleTable", "<init>", "([J)V"⟩ : MethodName)) rfl hown (hw _ (List.mem_of_getElem? (i := 5) rfl)) (hw _ (List.mem_of_getElem? (i := 6) rfl)) (hw _ (List.mem_of_getElem? (i := 3) rfl)) (hw _ (List.mem_of_getElem? (i := 7) rfl)) (by decide) (a := b1) (argsL := [(.ref b12)]) (rest := [(.ref b1)]) e52 (rmTT l Z a0 hw [] b1 b12 k12 t0 t1 t2 h52 n0 O53 E_54 F55 F56 F57 F58 F59 F60 F61 F62 F63 gn1 V_64 (Ne.symm ne13) T0T.2.2.2.1 T1T.2.2.2.1 T2T.2.2.2.1) 1 (by decide) (by decide) (by decide) (by decide) (mkF m 97 #[.val (.long q0), .second, .val (.int p1), .val (.long q2), .second, .val (.int p3), .val (.long q4), .second, .val (.int p5), .val (.long t0), .second, .val (.long t1), .second, .val (.long t2), .second, .val (.int e0v), .val (.int e1v), .val (.int e2v), .val (.int (p5 &&& (3 : Int32))), .val (.int po), .unset, .unset, .unset, .unset] [(.ref b12), (.ref b1), (.ref b1)]) rfl (by rw [hml]; rfl) (lenOf pd_2 rfl) rfl (hb hby at_97) (Nat.le_of_eq rfl) ?_
  intro v65 T65 L65 X65 hQ65
  obtain ⟨rfl, M65, K65, c0, c1, c2, w2, s2, wd, aw, as, am, kw, ks, km, B0, B1, B2, LY, Gw, Vw, Gs, Vs, Gm, Vm, Gd⟩ := hQ65
  have N65 := Fr.app N52 M65
  have O66 : Old Z n0 T65.heap := O53.keep K65 (allS gn1 all0)
  have E_67 : Exa Z T65.heap b1 "com/example/gieres/gieres/model/TupleTable" := E_54.keep K65
  have V_68 : Arv Z T65.heap b12 k12 .long (3 : Int32) [(.long t0), (.long t1), (.long t2)] (.long (0 : Int64)) := V_64.keep K65 (ninS (Ne.symm ne13) nin0)
  have LW := own_lay_w LY
  have IX := own_idx hpb.1 hpb.2 LW.1
  have I0 := own_idx hpb.1 hpb.2 (Or.inl (rfl : (0 : Int32) = 0))
  show Go p e below _ (T65.setTop (mkF m 100 #[.val (.long q0), .second, .val (.int p1), .val (.long q2), .second, .val (.int p3), .val (.long q4), .second, .val (.int p5), .val (.long t0), .second, .val (.long t1), .second, .val (.long t2), .second, .val (.int e0v), .val (.int e1v), .val (.int e2v), .val (.int (p5 &&& (3 : Int32))), .val (.int po), .unset, .unset, .unset, .unset] [(.ref b1)]))
  refine Go.st (fun _ => XS.astore X65.here hx rfl (hb hby at_100) rfl rfl (l' := #[.val (.long q0), .second, .val (.int p1), .val (.long q2), .second, .val (.int p3), .val (.long q4), .second, .val (.int p5), .val (.long t0), .second, .val (.long t1), .second, .val (.long t2), .second, .val (.int e0v), .val (.int e1v), .val (.int e2v), .val (.int (p5 &&& (3 : Int32))), .val (.int po), .val (.ref b1), .unset, .unset, .unset]) rfl) ?_
  show Go p e below _ (T65.setTop (mkF m 102 #[.val (.long q0), .second, .val (.int p1), .val (.long q2), .second, .val (.int p3), .val (.long q4), .second, .val (.int p5), .val (.long t0), .second, .val (.long t1), .second, .val (.long t2), .second, .val (.int e0v), .val (.int e1v), .val (.int e2v), .val (.int (p5 &&& (3 : Int32))), .val (.int po), .val (.ref b1), .unset, .unset, .unset] []))
  refine Go.st (fun _ => XS.iconst X65.here hx rfl (hb hby at_102)) ?_
  show Go p e below _ (T65.setTop (mkF m 103 #[.val (.long q0), .second, .val (.int p1), .val (.long q2), .second, .val (.int p3), .val (.long q4), .second, .val (.int p5), .val (.long t0), .second, .val (.long t1), .second, .val (.long t2), .second, .val (.int e0v), .val (.int e1v), .val (.int e2v), .val (.int (p5 &&& (3 : Int32))), .val (.int po), .val (.ref b1), .unset, .unset, .unset] [(.int (5 : Int32))]))
  obtain ⟨T69, h69, k69, X69, e69, E69, A69, st69⟩ := newP X65 hx hZ (hw _ (List.mem_of_getElem? (i := 4) rfl)) rfl (g := (mkF m 103 #[.val (.long q0), .second, .val (.int p1), .val (.long q2), .second, .val (.int p3), .val (.long q4), .second, .val (.int p5), .val (.long t0), .second, .val (.long t1), .second, .val (.long t2), .second, .val (.int e0v), .val (.int e1v), .val (.int e2v), .val (.int (p5 &&& (3 : Int32))), .val (.int po), .val (.ref b1), .unset, .unset, .unset] [(.int (5 : Int32))])) rfl (hb hby at_103) rfl (by decide) (cap := 5) (by decide) (by decide) (by decide) (by decide)
  obtain ⟨b69, g69⟩ : ∃ z, z = T65.heap.size := ⟨_, rfl⟩
  rw [← g69] at A69 st69
  refine Go.st st69 ?_
  have gn69 : n0 ≤ b69 := oldGe O66 g69
  have ne70 : b1 ≠ b69 := Nat.ne_of_lt (Nat.lt_of_lt_of_le E_67.lt (Nat.le_of_eq g69.symm))
  have ne71 : aw ≠ b69 := Nat.ne_of_lt (Nat.lt_of_lt_of_le Vw.lt (Nat.le_of_eq g69.symm))
  have ne72 : as ≠ b69 := Nat.ne_of_lt (Nat.lt_of_lt_of_le Vs.lt (Nat.le_of_eq g69.symm))
  have ne73 : am ≠ b69 := Nat.ne_of_lt (Nat.lt_of_lt_of_le Vm.lt (Nat.le_of_eq g69.symm))
  have O74 : Old Z n0 h69 := O66.ext E69
  have E_75 : Exa Z h69 b1 "com/example/gieres/gieres/model/TupleTable" := E_67.ext E69
  have F76 : Fld Z h69 b1 "com/example/gieres/gieres/model/TupleTable" "word" "[I" (.ref aw) := Gw.ext E69
  have V_77 : Arv Z h69 aw kw .int (3 : Int32) [(.int (0 : Int32)), (.int (0 : Int32)), (.int w2)] (.int (0 : Int32)) := Vw.ext E69
  have F78 : Fld Z h69 b1 "com/example/gieres/gieres/model/TupleTable" "shift" "[I" (.ref as) := Gs.ext E69
  have V_79 : Arv Z h69 as ks .int (3 : Int32) [(.int (0 : Int32)), (.int c0), (.int s2)] (.int (0 : Int32)) := Vs.ext E69
  have F80 : Fld Z h69 b1 "com/example/gieres/gieres/model/TupleTable" "mask" "[J" (.ref am) := Gm.ext E69
  have V_81 : Arv Z h69 am km .long (3 : Int32) [(.long (own_mask c0)), (.long (own_mask c1)), (.long (own_mask c2))] (.long (0 : Int64)) := Vm.ext E69
  have F82 : Fld Z h69 b1 "com/example/gieres/gieres/model/TupleTable" "width" "I" (.int wd) := Gd.ext E69
  have V_83 : Arv Z h69 b69 k69 .long (5 : Int32) [(.long (0 : Int64)), (.long (0 : Int64)), (.long (0 : Int64)), (.long (0 : Int64)), (.long (0 : Int64))] (.long (0 : Int64)) := (Arv.new A69 (by decide)).pad (pad_rep [] (.long (0 : Int64)) 5)
  show Go p e below _ (T69.setTop (mkF m 105 #[.val (.long q0), .second, .val (.int p1), .val (.long q2), .second, .val (.int p3), .val (.long q4), .second, .val (.int p5), .val (.long t0), .second, .val (.long t1), .second, .val (.long t2), .second, .val (.int e0v), .val (.int e1v), .val (.int e2v), .val (.int (p5 &&& (3 : Int32))), .val (.int po), .val (.ref b1), .unset, .unset, .unset] [(.ref b69)]))
  refine Go.st (fun _ => XS.dup X69.here hx rfl (hb hby at_105) rfl rfl) ?_
  show Go p e below _ (T69.setTop (mkF m 106 #[.val (.long q0), .second, .val (.int p1), .val (.long q2), .second, .val (.int p3), .val (.long q4), .second, .val (.int p5), .val (.long t0), .second, .val (.long t1), .second, .val (.long t2), .second, .val (.int e0v), .val (.int e1v), .val (.int e2v), .val (.int (p5 &&& (3 : Int32))), .val (.int po), .val (.ref b1), .unset, .unset, .unset] [(.ref b69), (.ref b69)]))
  refine Go.st (fun _ => XS.iconst X69.here hx rfl (hb hby at_106)) ?_
  show Go p e below _ (T69.setTop (mkF m 107 #[.val (.long q0), .second, .val (.int p1), .val (.long q2), .second, .val (.int p3), .val (.long q4), .second, .val (.int p5), .val (.long t0), .second, .val (.long t1), .second, .val (.long t2), .second, .val (.int e0v), .val (.int e1v), .val (.int e2v), .val (.int (p5 &&& (3 : Int32))), .val (.int po), .val (.ref b1), .unset, .unset, .unset] [(.int (0 : Int32)), (.ref b69), (.ref b69)]))
  refine Go.st (fun _ => XS.lload X69.here hx rfl (hb hby at_107) rfl) ?_
  show Go p e below _ (T69.setTop (mkF m 109 #[.val (.long q0), .second, .val (.int p1), .val (.long q2), .second, .val (.int p3), .val (.long q4), .second, .val (.int p5), .val (.long t0), .second, .val (.long t1), .second, .val (.long t2), .second, .val (.int e0v), .val (.int e1v), .val (.int e2v), .val (.int (p5 &&& (3 : Int32))), .val (.int po), .val (.ref b1), .unset, .unset, .unset] [(.long q4), (.int (0 : Int32)), (.ref b69), (.ref b69)]))
  obtain ⟨cl84, Ar84, qk84, Sz84, Nn84, Ha84, Ga84⟩ := id V_83
  have hin84 : ¬ ((0 : Int32) < 0 ∨ cl84.slots.size ≤ ((0 : Int32) : Int32).toNatClampNeg) := inb_of Sz84 ⟨by decide, by decide⟩
  obtain ⟨T84, h84, X84, e84, W84, st84⟩ := stJ X69 hx hZ e69 Ar84 (j := (0 : Int32)) hin84 (g := (mkF m 109 #[.val (.long q0), .second, .val (.int p1), .val (.long q2), .second, .val (.int p3), .val (.long q4), .second, .val (.int p5), .val (.long t0), .second, .val (.long t1), .second, .val (.long t2), .second, .val (.int e0v), .val (.int e1v), .val (.int e2v), .val (.int (p5 &&& (3 : Int32))), .val (.int po), .val (.ref b1), .unset, .unset, .unset] [(.long q4), (.int (0 : Int32)), (.ref b69), (.ref b69)])) rfl rfl (hb hby at_109)
  refine Go.st st84 ?_
  have O85 : Old Z n0 h84 := O74.wr W84 gn69
  have E_86 : Exa Z h84 b1 "com/example/gieres/gieres/model/TupleTable" := E_75.wr W84
  have F87 : Fld Z h84 b1 "com/example/gieres/gieres/model/TupleTable" "word" "[I" (.ref aw) := F76.other W84 (Or.inl ne70)
  have V_88 : Arv Z h84 aw kw .int (3 : Int32) [(.int (0 : Int32)), (.int (0 : Int32)), (.int w2)] (.int (0 : Int32)) := V_77.other W84 ne71
  have F89 : Fld Z h84 b1 "com/example/gieres/gieres/model/TupleTable" "shift" "[I" (.ref as) := F78.other W84 (Or.inl ne70)
  have V_90 : Arv Z h84 as ks .int (3 : Int32) [(.int (0 : Int32)), (.int c0), (.int s2)] (.int (0 : Int32)) := V_79.other W84 ne72
  have F91 : Fld Z h84 b1 "com/example/gieres/gieres/model/TupleTable" "mask" "[J" (.ref am) := F80.other W84 (Or.inl ne70)
  have V_92 : Arv Z h84 am km .long (3 : Int32) [(.long (own_mask c0)), (.long (own_mask c1)), (.long (own_mask c2))] (.long (0 : Int64)) := V_81.other W84 ne73
  have F93 : Fld Z h84 b1 "com/example/gieres/gieres/model/TupleTable" "width" "I" (.int wd) := F82.other W84 (Or.inl ne70)
  have V_94 : Arv Z h84 b69 k69 .long (5 : Int32) [(.long q4), (.long (0 : Int64)), (.long (0 : Int64)), (.long (0 : Int64)), (.long (0 : Int64))] (.long (0 : Int64)) := Arv.set Ar84 qk84 Sz84 Nn84 Ha84 Ga84 rfl W84 0 rfl (Nat.le_of_ble_eq_true rfl)
  have N84 := Fr.snoc X84 N65 gn69
  show Go p e below _ (T84.setTop (mkF m 110 #[.val (.long q0), .second, .val (.int p1), .val (.long q2), .second, .val (.int p3), .val (.long q4), .second, .val (.int p5), .val (.long t0), .second, .val (.long t1), .second, .val (.long t2), .second, .val (.int e0v), .val (.int e1v), .val (.int e2v), .val (.int (p5 &&& (3 : Int32))), .val (.int po), .val (.ref b1), .unset, .unset, .unset] [(.ref b69)]))
  refine Go.st (fun _ => XS.dup X84.here hx rfl (hb hby at_110) rfl rfl) ?_
  show Go p e below _ (T84.setTop (mkF m 111 #[.val (.long q0), .second, .val (.int p1), .val (.long q2), .second, .val (.int p3), .val (.long q4), .second, .val (.int p5), .val (.long t0), .second, .val (.long t1), .second, .val (.long t2), .second, .val (.int e0v), .val (.int e1v), .val (.int e2v), .val (.int (p5 &&& (3 : Int32))), .val (.int po), .val (.ref b1), .unset, .unset, .unset] [(.ref b69), (.ref b69)]))
  refine Go.st (fun _ => XS.iconst X84.here hx rfl (hb hby at_111)) ?_
  show Go p e below _ (T84.setTop (mkF m 112 #[.val (.long q0), .second, .val (.int p1), .val (.long q2), .second, .val (.int p3), .val (.long q4), .second, .val (.int p5), .val (.long t0), .second, .val (.long t1), .second, .val (.long t2), .second, .val (.int e0v), .val (.int e1v), .val (.int e2v), .val (.int (p5 &&& (3 : Int32))), .val (.int po), .val (.ref b1), .unset, .unset, .unset] [(.int (1 : Int32)), (.ref b69), (.ref b69)]))
  refine Go.st (fun _ => XS.lload X84.here hx rfl (hb hby at_112) rfl) ?_
  show Go p e below _ (T84.setTop (mkF m 114 #[.val (.long q0), .second, .val (.int p1), .val (.long q2), .second, .val (.int p3), .val (.long q4), .second, .val (.int p5), .val (.long t0), .second, .val (.long t1), .second, .val (.long t2), .second, .val (.int e0v), .val (.int e1v), .val (.int e2v), .val (.int (p5 &&& (3 : Int32))), .val (.int po), .val (.ref b1), .unset, .unset, .unset] [(.long q4), (.int (1 : Int32)), (.ref b69), (.ref b69)]))
  refine Go.st (fun _ => X84.ldc2Long hx hown (mvT hZ (hw _ (List.mem_of_getElem? (i := 41) rfl))) (g := (mkF m 114 #[.val (.long q0), .second, .val (.int p1), .val (.long q2), .second, .val (.int p3), .val (.long q4), .second, .val (.int p5), .val (.long t0), .second, .val (.long t1), .second, .val (.long t2), .second, .val (.int e0v), .val (.int e1v), .val (.int e2v), .val (.int (p5 &&& (3 : Int32))), .val (.int po), .val (.ref b1), .unset, .unset, .unset] [(.long q4), (.int (1 : Int32)), (.ref b69), (.ref b69)])) rfl (hb hby at_114) _) ?_
  show Go p e below _ (T84.setTop (mkF m 117 #[.val (.long q0), .second, .val (.int p1), .val (.long q2), .second, .val (.int p3), .val (.long q4), .second, .val (.int p5), .val (.long t0), .second, .val (.long t1), .second, .val (.long t2), .second, .val (.int e0v), .val (.int e1v), .val (.int e2v), .val (.int (p5 &&& (3 : Int32))), .val (.int po), .val (.ref b1), .unset, .unset, .unset] [(.long (-1 : Int64)), (.long q4), (.int (1 : Int32)), (.ref b69), (.ref b69)]))
  refine Go.st (fun _ => XS.lxor X84.here hx rfl (hb hby at_117) rfl) ?_
  show Go p e below _ (T84.setTop (mkF m 118 #[.val (.long q0), .second, .val (.int p1), .val (.long q2), .second, .val (.int p3), .val (.long q4), .second, .val (.int p5), .val (.long t0), .second, .val (.long t1), .second, .val (.long t2), .second, .val (.int e0v), .val (.int e1v), .val (.int e2v), .val (.int (p5 &&& (3 : Int32))), .val (.int po), .val (.ref b1), .unset, .unset, .unset] [(.long (q4 ^^^ (-1 : Int64))), (.int (1 : Int32)), (.ref b69), (.ref b69)]))
  obtain ⟨cl95, Ar95, qk95, Sz95, Nn95, Ha95, Ga95⟩ := id V_94
  have hin95 : ¬ ((1 : Int32) < 0 ∨ cl95.slots.size ≤ ((1 : Int32) : Int32).toNatClampNeg) := inb_of Sz95 ⟨by decide, by decide⟩
  obtain ⟨T95, h95, X95, e95, W95, st95⟩ := stJ X84 hx hZ e84 Ar95 (j := (1 : Int32)) hin95 (g := (mkF m 118 #[.val (.long q0), .second, .val (.int p1), .val (.long q2), .second, .val (.int p3), .val (.long q4), .second, .val (.int p5), .val (.long t0), .second, .val (.long t1), .second, .val (.long t2), .second, .val (.int e0v), .val (.int e1v), .val (.int e2v), .val (.int (p5 &&& (3 : Int32))), .val (.int po), .val (.ref b1), .unset, .unset, .unset] [(.long (q4 ^^^ (-1 : Int64))), (.int (1 : Int32)), (.ref b69), (.ref b69)])) rfl rfl (hb hby at_118)
  refine Go.st st95 ?_
  have O96 : Old Z n0 h95 := O85.wr W95 gn69
  have E_97 : Exa Z h95 b1 "com/example/gieres/gieres/model/TupleTable" := E_86.wr W95
  have F98 : Fld Z h95 b1 "com/example/gieres/gieres/model/TupleTable" "word" "[I" (.ref aw) := F87.other W95 (Or.inl ne70)
  have V_99 : Arv Z h95 aw kw .int (3 : Int32) [(.int (0 : Int32)), (.int (0 : Int32)), (.int w2)] (.int (0 : Int32)) := V_88.other W95 ne71
  have F100 : Fld Z h95 b1 "com/example/gieres/gieres/model/TupleTable" "shift" "[I" (.ref as) := F89.other W95 (Or.inl ne70)
  have V_101 : Arv Z h95 as ks .int (3 : Int32) [(.int (0 : Int32)), (.int c0), (.int s2)] (.int (0 : Int32)) := V_90.other W95 ne72
  have F102 : Fld Z h95 b1 "com/example/gieres/gieres/model/TupleTable" "mask" "[J" (.ref am) := F91.other W95 (Or.inl ne70)
  have V_103 : Arv Z h95 am km .long (3 : Int32) [(.long (own_mask c0)), (.long (own_mask c1)), (.long (own_mask c2))] (.long (0 : Int64)) := V_92.other W95 ne73
  have F104 : Fld Z h95 b1 "com/example/gieres/gieres/model/TupleTable" "width" "I" (.int wd) := F93.other W95 (Or.inl ne70)
  have V_105 : Arv Z h95 b69 k69 .long (5 : Int32) [(.long q4), (.long (q4 ^^^ (-1 : Int64))), (.long (0 : Int64)), (.long (0 : Int64)), (.long (0 : Int64))] (.long (0 : Int64)) := Arv.set Ar95 qk95 Sz95 Nn95 Ha95 Ga95 rfl W95 1 rfl (Nat.le_of_ble_eq_true rfl)
  have N95 := Fr.snoc X95 N84 gn69
  show Go p e below _ (T95.setTop (mkF m 119 #[.val (.long q0), .second, .val (.int p1), .val (.long q2), .second, .val (.int p3), .val (.long q4), .second, .val (.int p5), .val (.long t0), .second, .val (.long t1), .second, .val (.long t2), .second, .val (.int e0v), .val (.int e1v), .val (.int e2v), .val (.int (p5 &&& (3 : Int32))), .val (.int po), .val (.ref b1), .unset, .unset, .unset] [(.ref b69)]))
  refine Go.st (fun _ => XS.dup X95.here hx rfl (hb hby at_119) rfl rfl) ?_
  show Go p e below _ (T95.setTop (mkF m 120 #[.val (.long q0), .second, .val (.int p1), .val (.long q2), .second, .val (.int p3), .val (.long q4), .second, .val (.int p5), .val (.long t0), .second, .val (.long t1), .second, .val (.long t2), .second, .val (.int e0v), .val (.int e1v), .val (.int e2v), .val (.int (p5 &&& (3 : Int32))), .val (.int po), .val (.ref b1), .unset, .unset, .unset] [(.ref b69), (.ref b69)]))
  refine Go.st (fun _ => XS.iconst X95.here hx rfl (hb hby at_120)) ?_
  show Go p e below _ (T95.setTop (mkF m 121 #[.val (.long q0), .second, .val (.int p1), .val (.long q2), .second, .val (.int p3), .val (.long q4), .second, .val (.int p5), .val (.long t0), .second, .val (.long t1), .second, .val (.long t2), .second, .val (.int e0v), .val (.int e1v), .val (.int e2v), .val (.int (p5 &&& (3 : Int32))), .val (.int po), .val (.ref b1), .unset, .unset, .unset] [(.int (2 : Int32)), (.ref b69), (.ref b69)]))
  refine Go.st (fun _ => XS.lload X95.here hx rfl (hb hby at_121) rfl) ?_
  show Go p e below _ (T95.setTop (mkF m 123 #[.val (.long q0), .second, .val (.int p1), .val (.long q2), .second, .val (.int p3), .val (.long q4), .second, .val (.int p5), .val (.long t0), .second, .val (.long t1), .second, .val (.long t2), .second, .val (.int e0v), .val (.int e1v), .val (.int e2v), .val (.int (p5 &&& (3 : Int32))), .val (.int po), .val (.ref b1), .unset, .unset, .unset] [(.long q4), (.int (2 : Int32)), (.ref b69), (.ref b69)]))
  refine Go.st (fun _ => XS.lloadN X95.here hx rfl (hb hby at_123) rfl) ?_
  show Go p e below _ (T95.setTop (mkF m 124 #[.val (.long q0), .second, .val (.int p1), .val (.long q2), .second, .val (.int p3), .val (.long q4), .second, .val (.int p5), .val (.long t0), .second, .val (.long t1), .second, .val (.long t2), .second, .val (.int e0v), .val (.int e1v), .val (.int e2v), .val (.int (p5 &&& (3 : Int32))), .val (.int po), .val (.ref b1), .unset, .unset, .unset] [(.long q2), (.long q4), (.int (2 : Int32)), (.ref b69), (.ref b69)]))
  refine Go.st (fun _ => XS.lxor X95.here hx rfl (hb hby at_124) rfl) ?_
  show Go p e below _ (T95.setTop (mkF m 125 #[.val (.long q0), .second, .val (.int p1), .val (.long q2), .second, .val (.int p3), .val (.long q4), .second, .val (.int p5), .val (.long t0), .second, .val (.long t1), .second, .val (.long t2), .second, .val (.int e0v), .val (.int e1v), .val (.int e2v), .val (.int (p5 &&& (3 : Int32))), .val (.int po), .val (.ref b1), .unset, .unset, .unset] [(.long (q4 ^^^ q2)), (.int (2 : Int32)), (.ref b69), (.ref b69)]))
  obtain ⟨cl106, Ar106, qk106, Sz106, Nn106, Ha106, Ga106⟩ := id V_105
  have hin106 : ¬ ((2 : Int32) < 0 ∨ cl106.slots.size ≤ ((2 : Int32) : Int32).toNatClampNeg) := inb_of Sz106 ⟨by decide, by decide⟩
  obtain ⟨T106, h106, X106, e106, W106, st106⟩ := stJ X95 hx hZ e95 Ar106 (j := (2 : Int32)) hin106 (g := (mkF m 125 #[.val (.long q0), .second, .val (.int p1), .val (.long q2), .second, .val (.int p3), .val (.long q4), .second, .val (.int p5), .val (.long t0), .second, .val (.long t1), .second, .val (.long t2), .second, .val (.int e0v), .val (.int e1v), .val (.int e2v), .val (.int (p5 &&& (3 : Int32))), .val (.int po), .val (.ref b1), .unset, .unset, .unset] [(.long (q4 ^^^ q2)), (.int (2 : Int32)), (.ref b69), (.ref b69)])) rfl rfl (hb hby at_125)
  refine Go.st st106 ?_
  have O107 : Old Z n0 h106 := O96.wr W106 gn69
  have E_108 : Exa Z h106 b1 "com/example/gieres/gieres/model/TupleTable" := E_97.wr W106
  have F109 : Fld Z h106 b1 "com/example/gieres/gieres/model/TupleTable" "word" "[I" (.ref aw) := F98.other W106 (Or.inl ne70)
  have V_110 : Arv Z h106 aw kw .int (3 : Int32) [(.int (0 : Int32)), (.int (0 : Int32)), (.int w2)] (.int (0 : Int32)) := V_99.other W106 ne71
  have F111 : Fld Z h106 b1 "com/example/gieres/gieres/model/TupleTable" "shift" "[I" (.ref as) := F100.other W106 (Or.inl ne70)
  have V_112 : Arv Z h106 as ks .int (3 : Int32) [(.int (0 : Int32)), (.int c0), (.int s2)] (.int (0 : Int32)) := V_101.other W106 ne72
  have F113 : Fld Z h106 b1 "com/example/gieres/gieres/model/TupleTable" "mask" "[J" (.ref am) := F102.other W106 (Or.inl ne70)
  have V_114 : Arv Z h106 am km .long (3 : Int32) [(.long (own_mask c0)), (.long (own_mask c1)), (.long (own_mask c2))] (.long (0 : Int64)) := V_103.other W106 ne73
  have F115 : Fld Z h106 b1 "com/example/gieres/gieres/model/TupleTable" "width" "I" (.int wd) := F104.other W106 (Or.inl ne70)
  have V_116 : Arv Z h106 b69 k69 .long (5 : Int32) [(.long q4), (.long (q4 ^^^ (-1 : Int64))), (.long (q4 ^^^ q2)), (.long (0 : Int64)), (.long (0 : Int64))] (.long (0 : Int64)) := Arv.set Ar106 qk106 Sz106 Nn106 Ha106 Ga106 rfl W106 2 rfl (Nat.le_of_ble_eq_true rfl)
  have N106 := Fr.snoc X106 N95 gn69
  show Go p e below _ (T106.setTop (mkF m 126 #[.val (.long q0), .second, .val (.int p1), .val (.long q2), .second, .val (.int p3), .val (.long q4), .second, .val (.int p5), .val (.long t0), .second, .val (.long t1), .second, .val (.long t2), .second, .val (.int e0v), .val (.int e1v), .val (.int e2v), .val (.int (p5 &&& (3 : Int32))), .val (.int po), .val (.ref b1), .unset, .unset, .unset] [(.ref b69)]))
  refine Go.st (fun _ => XS.dup X106.here hx rfl (hb hby at_126) rfl rfl) ?_
  show Go p e below _ (T106.setTop (mkF m 127 #[.val (.long q0), .second, .val (.int p1), .val (.long q2), .second, .val (.int p3), .val (.long q4), .second, .val (.int p5), .val (.long t0), .second, .val (.long t1), .second, .val (.long t2), .second, .val (.int e0v), .val (.int e1v), .val (.int e2v), .val (.int (p5 &&& (3 : Int32))), .val (.int po), .val (.ref b1), .unset, .unset, .unset] [(.ref b69), (.ref b69)]))
  refine Go.st (fun _ => XS.iconst X106.here hx rfl (hb hby at_127)) ?_
  show Go p e below _ (T106.setTop (mkF m 128 #[.val (.long q0), .second, .val (.int p1), .val (.long q2), .second, .val (.int p3), .val (.long q4), .second, .val (.int p5), .val (.long t0), .second, .val (.long t1), .second, .val (.long t2), .second, .val (.int e0v), .val (.int e1v), .val (.int e2v), .val (.int (p5 &&& (3 : Int32))), .val (.int po), .val (.ref b1), .unset, .unset, .unset] [(.int (3 : Int32)), (.ref b69), (.ref b69)]))
  refine Go.st (fun _ => XS.lload X106.here hx rfl (hb hby at_128) rfl) ?_
  show Go p e below _ (T106.setTop (mkF m 130 #[.val (.long q0), .second, .val (.int p1), .val (.long q2), .second, .val (.int p3), .val (.long q4), .second, .val (.int p5), .val (.long t0), .second, .val (.long t1), .second, .val (.long t2), .second, .val (.int e0v), .val (.int e1v), .val (.int e2v), .val (.int (p5 &&& (3 : Int32))), .val (.int po), .val (.ref b1), .unset, .unset, .unset] [(.long q4), (.int (3 : Int32)), (.ref b69), (.ref b69)]))
  refine Go.st (fun _ => XS.lloadN X106.here hx rfl (hb hby at_130) rfl) ?_
  show Go p e below _ (T106.setTop (mkF m 131 #[.val (.long q0), .second, .val (.int p1), .val (.long q2), .second, .val (.int p3), .val (.long q4), .second, .val (.int p5), .val (.long t0), .second, .val (.long t1), .second, .val (.long t2), .second, .val (.int e0v), .val (.int e1v), .val (.int e2v), .val (.int (p5 &&& (3 : Int32))), .val (.int po), .val (.ref b1), .unset, .unset, .unset] [(.long q0), (.long q4), (.int (3 : Int32)), (.ref b69), (.ref b69)]))
  refine Go.st (fun _ => XS.ladd X106.here hx rfl (hb hby at_131) rfl) ?_
  show Go p e below _ (T106.setTop (mkF m 132 #[.val (.long q0), .second, .val (.int p1), .val (.long q2), .second, .val (.int p3), .val (.long q4), .second, .val (.int p5), .val (.long t0), .second, .val (.long t1), .second, .val (.long t2), .second, .val (.int e0v), .val (.int e1v), .val (.int e2v), .val (.int (p5 &&& (3 : Int32))), .val (.int po), .val (.ref b1), .unset, .unset, .unset] [(.long (q4 + q0)), (.int (3 : Int32)), (.ref b69), (.ref b69)]))
  obtain ⟨cl117, Ar117, qk117, Sz117, Nn117, Ha117, Ga117⟩ := id V_116
  have hin117 : ¬ ((3 : Int32) < 0 ∨ cl117.slots.size ≤ ((3 : Int32) : Int32).toNatClampNeg) := inb_of Sz117 ⟨by decide, by decide⟩
  obtain ⟨T117, h117, X117, e117, W117, st117⟩ := stJ X106 hx hZ e106 Ar117 (j := (3 : Int32)) hin117 (g := (mkF m 132 #[.val (.long q0), .second, .val (.int p1), .val (.long q2), .second, .val (.int p3), .val (.long q4), .second, .val (.int p5), .val (.long t0), .second, .val (.long t1), .second, .val (.long t2), .second, .val (.int e0v), .val (.int e1v), .val (.int e2v), .val (.int (p5 &&& (3 : Int32))), .val (.int po), .val (.ref b1), .unset, .unset, .unset] [(.long (q4 + q0)), (.int (3 : Int32)), (.ref b69), (.ref b69)])) rfl rfl (hb hby at_132)
  refine Go.st st117 ?_
  have O118 : Old Z n0 h117 := O107.wr W117 gn69
  have E_119 : Exa Z h117 b1 "com/example/gieres/gieres/model/TupleTable" := E_108.wr W117
  have F120 : Fld Z h117 b1 "com/example/gieres/gieres/model/TupleTable" "word" "[I" (.ref aw) := F109.other W117 (Or.inl ne70)
  have V_121 : Arv Z h117 aw kw .int (3 : Int32) [(.int (0 : Int32)), (.int (0 : Int32)), (.int w2)] (.int (0 : Int32)) := V_110.other W117 ne71
  have F122 : Fld Z h117 b1 "com/example/gieres/gieres/model/TupleTable" "shift" "[I" (.ref as) := F111.other W117 (Or.inl ne70)
  have V_123 : Arv Z h117 as ks .int (3 : Int32) [(.int (0 : Int32)), (.int c0), (.int s2)] (.int (0 : Int32)) := V_112.other W117 ne72
  have F124 : Fld Z h117 b1 "com/example/gieres/gieres/model/TupleTable" "mask" "[J" (.ref am) := F113.other W117 (Or.inl ne70)
  have V_125 : Arv Z h117 am km .long (3 : Int32) [(.long (own_mask c0)), (.long (own_mask c1)), (.long (own_mask c2))] (.long (0 : Int64)) := V_114.other W117 ne73
  have F126 : Fld Z h117 b1 "com/example/gieres/gieres/model/TupleTable" "width" "I" (.int wd) := F115.other W117 (Or.inl ne70)
  have V_127 : Arv Z h117 b69 k69 .long (5 : Int32) [(.long q4), (.long (q4 ^^^ (-1 : Int64))), (.long (q4 ^^^ q2)), (.long (q4 + q0)), (.long (0 : Int64))] (.long (0 : Int64)) := Arv.set Ar117 qk117 Sz117 Nn117 Ha117 Ga117 rfl W117 3 rfl (Nat.le_of_ble_eq_true rfl)
  have N117 := Fr.snoc X117 N106 gn69
  show Go p e below _ (T117.setTop (mkF m 133 #[.val (.long q0), .second, .val (.int p1), .val (.long q2), .second, .val (.int p3), .val (.long q4), .second, .val (.int p5), .val (.long t0), .second, .val (.long t1), .second, .val (.long t2), .second, .val (.int e0v), .val (.int e1v), .val (.int e2v), .val (.int (p5 &&& (3 : Int32))), .val (.int po), .val (.ref b1), .unset, .unset, .unset] [(.ref b69)]))
  refine Go.st (fun _ => XS.dup X117.here hx rfl (hb hby at_133) rfl rfl) ?_
  show Go p e below _ (T117.setTop (mkF m 134 #[.val (.long q0), .second, .val (.int p1), .val (.long q2), .second, .val (.int p3), .val (.long q4), .second, .val (.int p5), .val (.long t0), .second, .val (.long t1), .second, .val (.long t2), .second, .val (.int e0v), .val (.int e1v), .val (.int e2v), .val (.int (p5 &&& (3 : Int32))), .val (.int po), .val (.ref b1), .unset, .unset, .unset] [(.ref b69), (.ref b69)]))
  refine Go.st (fun _ => XS.iconst X117.here hx rfl (hb hby at_134)) ?_
  show Go p e below _ (T117.setTop (mkF m 135 #[.val (.long q0), .second, .val (.int p1), .val (.long q2), .second, .val (.int p3), .val (.long q4), .second, .val (.int p5), .val (.long t0), .second, .val (.long t1), .second, .val (.long t2), .second, .val (.int e0v), .val (.int e1v), .val (.int e2v), .val (.int (p5 &&& (3 : Int32))), .val (.int po), .val (.ref b1), .unset, .unset, .unset] [(.int (4 : Int32)), (.ref b69), (.ref b69)]))
  refine Go.st (fun _ => XS.lload X117.here hx rfl (hb hby at_135) rfl) ?_
  show Go p e below _ (T117.setTop (mkF m 137 #[.val (.long q0), .second, .val (.int p1), .val (.long q2), .second, .val (.int p3), .val (.long q4), .second, .val (.int p5), .val (.long t0), .second, .val (.long t1), .second, .val (.long t2), .second, .val (.int e0v), .val (.int e1v), .val (.int e2v), .val (.int (p5 &&& (3 : Int32))), .val (.int po), .val (.ref b1), .unset, .unset, .unset] [(.long q4), (.int (4 : Int32)), (.ref b69), (.ref b69)]))
  refine Go.st (fun _ => XS.lloadN X117.here hx rfl (hb hby at_137) rfl) ?_
  show Go p e below _ (T117.setTop (mkF m 138 #[.val (.long q0), .second, .val (.int p1), .val (.long q2), .second, .val (.int p3), .val (.long q4), .second, .val (.int p5), .val (.long t0), .second, .val (.long t1), .second, .val (.long t2), .second, .val (.int e0v), .val (.int e1v), .val (.int e2v), .val (.int (p5 &&& (3 : Int32))), .val (.int po), .val (.ref b1), .unset, .unset, .unset] [(.long q0), (.long q4), (.int (4 : Int32)), (.ref b69), (.ref b69)]))
  refine Go.st (fun _ => XS.lxor X117.here hx rfl (hb hby at_138) rfl) ?_
  show Go p e below _ (T117.setTop (mkF m 139 #[.val (.long q0), .second, .val (.int p1), .val (.long q2), .second, .val (.int p3), .val (.long q4), .second, .val (.int p5), .val (.long t0), .second, .val (.long t1), .second, .val (.long t2), .second, .val (.int e0v), .val (.int e1v), .val (.int e2v), .val (.int (p5 &&& (3 : Int32))), .val (.int po), .val (.ref b1), .unset, .unset, .unset] [(.long (q4 ^^^ q0)), (.int (4 : Int32)), (.ref b69), (.ref b69)]))
  refine Go.st (fun _ => X117.ldc2Long hx hown (mvT hZ (hw _ (List.mem_of_getElem? (i := 41) rfl))) (g := (mkF m 139 #[.val (.long q0), .second, .val (.int p1), .val (.long q2), .second, .val (.int p3), .val (.long q4), .second, .val (.int p5), .val (.long t0), .second, .val (.long t1), .second, .val (.long t2), .second, .val (.int e0v), .val (.int e1v), .val (.int e2v), .val (.int (p5 &&& (3 : Int32))), .val (.int po), .val (.ref b1), .unset, .unset, .unset] [(.long (q4 ^^^ q0)), (.int (4 : Int32)), (.ref b69), (.ref b69)])) rfl (hb hby at_139) _) ?_
  show Go p e below _ (T117.setTop (mkF m 142 #[.val (.long q0), .second, .val (.int p1), .val (.long q2), .second, .val (.int p3), .val (.long q4), .second, .val (.int p5), .val (.long t0), .second, .val (.long t1), .second, .val (.long t2), .second, .val (.int e0v), .val (.int e1v), .val (.int e2v), .val (.int (p5 &&& (3 : Int32))), .val (.int po), .val (.ref b1), .unset, .unset, .unset] [(.long (-1 : Int64)), (.long (q4 ^^^ q0)), (.int (4 : Int32)), (.ref b69), (.ref b69)]))
  refine Go.st (fun _ => XS.lxor X117.here hx rfl (hb hby at_142) rfl) ?_
  show Go p e below _ (T117.setTop (mkF m 143 #[.val (.long q0), .second, .val (.int p1), .val (.long q2), .second, .val (.int p3), .val (.long q4), .second, .val (.int p5), .val (.long t0), .second, .val (.long t1), .second, .val (.long t2), .second, .val (.int e0v), .val (.int e1v), .val (.int e2v), .val (.int (p5 &&& (3 : Int32))), .val (.int po), .val (.ref b1), .unset, .unset, .unset] [(.long ((q4 ^^^ q0) ^^^ (-1 : Int64))), (.int (4 : Int32)), (.ref b69), (.ref b69)]))
  obtain ⟨cl128, Ar128, qk128, Sz128, Nn128, Ha128, Ga128⟩ := id V_127
  have hin128 : ¬ ((4 : Int32) < 0 ∨ cl128.slots.size ≤ ((4 : Int32) : Int32).toNatClampNeg) := inb_of Sz128 ⟨by decide, by decide⟩
  obtain ⟨T128, h128, X128, e128, W128, st128⟩ := stJ X117 hx hZ e117 Ar128 (j := (4 : Int32)) hin128 (g := (mkF m 143 #[.val (.long q0), .second, .val (.int p1), .val (.long q2), .second, .val (.int p3), .val (.long q4), .second, .val (.int p5), .val (.long t0), .second, .val (.long t1), .second, .val (.long t2), .second, .val (.int e0v), .val (.int e1v), .val (.int e2v), .val (.int (p5 &&& (3 : Int32))), .val (.int po), .val (.ref b1), .unset, .unset, .unset] [(.long ((q4 ^^^ q0) ^^^ (-1 : Int64))), (.int (4 : Int32)), (.ref b69), (.ref b69)])) rfl rfl (hb hby at_143)
  refine Go.st st128 ?_
  have O129 : Old Z n0 h128 := O118.wr W128 gn69
  have E_130 : Exa Z h128 b1 "com/example/gieres/gieres/model/TupleTable" := E_119.wr W128
  have F131 : Fld Z h128 b1 "com/example/gieres/gieres/model/TupleTable" "word" "[I" (.ref aw) := F120.other W128 (Or.inl ne70)
  have V_132 : Arv Z h128 aw kw .int (3 : Int32) [(.int (0 : Int32)), (.int (0 : Int32)), (.int w2)] (.int (0 : Int32)) := V_121.other W128 ne71
  have F133 : Fld Z h128 b1 "com/example/gieres/gieres/model/TupleTable" "shift" "[I" (.ref as) := F122.other W128 (Or.inl ne70)
  have V_134 : Arv Z h128 as ks .int (3 : Int32) [(.int (0 : Int32)), (.int c0), (.int s2)] (.int (0 : Int32)) := V_123.other W128 ne72
  have F135 : Fld Z h128 b1 "com/example/gieres/gieres/model/TupleTable" "mask" "[J" (.ref am) := F124.other W128 (Or.inl ne70)
  have V_136 : Arv Z h128 am km .long (3 : Int32) [(.long (own_mask c0)), (.long (own_mask c1)), (.long (own_mask c2))] (.long (0 : Int64)) := V_125.other W128 ne73
  have F137 : Fld Z h128 b1 "com/example/gieres/gieres/model/TupleTable" "width" "I" (.int wd) := F126.other W128 (Or.inl ne70)
  have V_138 : Arv Z h128 b69 k69 .long (5 : Int32) [(.long q4), (.long (q4 ^^^ (-1 : Int64))), (.long (q4 ^^^ q2)), (.long (q4 + q0)), (.long ((q4 ^^^ q0) ^^^ (-1 : Int64)))] (.long (0 : Int64)) := Arv.set Ar128 qk128 Sz128 Nn128 Ha128 Ga128 rfl W128 4 rfl (Nat.le_of_ble_eq_true rfl)
  have N128 := Fr.snoc X128 N117 gn69
  show Go p e below _ (T128.setTop (mkF m 144 #[.val (.long q0), .second, .val (.int p1), .val (.long q2), .second, .val (.int p3), .val (.long q4), .second, .val (.int p5), .val (.long t0), .second, .val (.long t1), .second, .val (.long t2), .second, .val (.int e0v), .val (.int e1v), .val (.int e2v), .val (.int (p5 &&& (3 : Int32))), .val (.int po), .val (.ref b1), .unset, .unset, .unset] [(.ref b69)]))
  refine Go.st (fun _ => XS.astore X128.here hx rfl (hb hby at_144) rfl rfl (l' := #[.val (.long q0), .second, .val (.int p1), .val (.long q2), .second, .val (.int p3), .val (.long q4), .second, .val (.int p5), .val (.long t0), .second, .val (.long t1), .second, .val (.long t2), .second, .val (.int e0v), .val (.int e1v), .val (.int e2v), .val (.int (p5 &&& (3 : Int32))), .val (.int po), .val (.ref b1), .val (.ref b69), .unset, .unset]) rfl) ?_
  show Go p e below _ (T128.setTop (mkF m 146 #[.val (.long q0), .second, .val (.int p1), .val (.long q2), .second, .val (.int p3), .val (.long q4), .second, .val (.int p5), .val (.long t0), .second, .val (.long t1), .second, .val (.long t2), .second, .val (.int e0v), .val (.int e1v), .val (.int e2v), .val (.int (p5 &&& (3 : Int32))), .val (.int po), .val (.ref b1), .val (.ref b69), .unset, .unset] []))
  obtain ⟨f0, KA0⟩ : ∃ f, LAr Z h128 b69 5 f := ⟨fun k => ([q4, (q4 ^^^ (-1 : Int64)), (q4 ^^^ q2), (q4 + q0), ((q4 ^^^ q0) ^^^ (-1 : Int64))] : List Int64).getD k 0, LAr_of V_138 rfl (by decide) (fun j hj => by rcases j with _ | _ | _ | _ | _ | j <;> first | rfl | omega)⟩
  show Go p e below _ (T128.setTop (mkF m 146 #[.val (.long q0), .second, .val (.int p1), .val (.long q2), .second, .val (.int p3), .val (.long q4), .second, .val (.int p5), .val (.long t0), .second, .val (.long t1), .second, .val (.long t2), .second, .val (.int e0v), .val (.int e1v), .val (.int e2v), .val (.int (p5 &&& (3 : Int32))), .val (.int po), .val (.ref b1), .val (.ref b69), .unset, .unset] []))
  refine Go.st (fun _ => XS.aload X128.here hx rfl (hb hby at_146) rfl rfl) ?_
  show Go p e below _ (T128.setTop (mkF m 148 #[.val (.long q0), .second, .val (.int p1), .val (.long q2), .second, .val (.int p3), .val (.long q4), .second, .val (.int p5), .val (.long t0), .second, .val (.long t1), .second, .val (.long t2), .second, .val (.int e0v), .val (.int e1v), .val (.int e2v), .val (.int (p5 &&& (3 : Int32))), .val (.int po), .val (.ref b1), .val (.ref b69), .unset, .unset] [(.ref b1)]))
  refine Go.st (fun _ => XS.aload X128.here hx rfl (hb hby at_148) rfl rfl) ?_
  show Go p e below _ (T128.setTop (mkF m 150 #[.val (.long q0), .second, .val (.int p1), .val (.long q2), .second, .val (.int p3), .val (.long q4), .second, .val (.int p5), .val (.long t0), .second, .val (.long t1), .second, .val (.long t2), .second, .val (.int e0v), .val (.int e1v), .val (.int e2v), .val (.int (p5 &&& (3 : Int32))), .val (.int po), .val (.ref b1), .val (.ref b69), .unset, .unset] [(.ref b69), (.ref b1)]))
  refine Go.st (fun _ => XS.iload X128.here hx rfl (hb hby at_150) rfl) ?_
  show Go p e below _ (T128.setTop (mkF m 152 #[.val (.long q0), .second, .val (.int p1), .val (.long q2), .second, .val (.int p3), .val (.long q4), .second, .val (.int p5), .val (.long t0), .second, .val (.long t1), .second, .val (.long t2), .second, .val (.int e0v), .val (.int e1v), .val (.int e2v), .val (.int (p5 &&& (3 : Int32))), .val (.int po), .val (.ref b1), .val (.ref b69), .unset, .unset] [(.int po), (.ref b69), (.ref b1)]))
  refine Go.st (fun _ => XS.iconst X128.here hx rfl (hb hby at_152)) ?_
  show Go p e below _ (T128.setTop (mkF m 153 #[.val (.long q0), .second, .val (.int p1), .val (.long q2), .second, .val (.int p3), .val (.long q4), .second, .val (.int p5), .val (.long t0), .second, .val (.long t1), .second, .val (.long t2), .second, .val (.int e0v), .val (.int e1v), .val (.int e2v), .val (.int (p5 &&& (3 : Int32))), .val (.int po), .val (.ref b1), .val (.ref b69), .unset, .unset] [(.int (0 : Int32)), (.int po), (.ref b69), (.ref b1)]))
  refine Go.st (fun _ => XS.iload X128.here hx rfl (hb hby at_153) rfl) ?_
  show Go p e below _ (T128.setTop (mkF m 155 #[.val (.long q0), .second, .val (.int p1), .val (.long q2), .second, .val (.int p3), .val (.long q4), .second, .val (.int p5), .val (.long t0), .second, .val (.long t1), .second, .val (.long t2), .second, .val (.int e0v), .val (.int e1v), .val (.int e2v), .val (.int (p5 &&& (3 : Int32))), .val (.int po), .val (.ref b1), .val (.ref b69), .unset, .unset] [(.int e0v), (.int (0 : Int32)), (.int po), (.ref b69), (.ref b1)]))
  refine goVirt X128 hx hZ (y := (⟨"com/example/gieres/gieres/model/TupleTable", "setState", "([JIII)V"⟩ : MethodName)) (z := (⟨"com/example/gieres/gieres/model/TupleTable", "setState", "([JIII)V"⟩ : MethodName)) hown (hw _ (List.mem_of_getElem? (i := 42) rfl)) (hw _ (List.mem_of_getElem? (i := 43) rfl)) (notFace_of_selects (args := #[]) (mvT hZ (hw _ (List.mem_of_getElem? (i := 45) rfl)))) (hw _ (List.mem_of_getElem? (i := 45) rfl)) (hw _ (List.mem_of_getElem? (i := 44) rfl)) (hw _ (List.mem_of_getElem? (i := 3) rfl)) (hw _ (List.mem_of_getElem? (i := 46) rfl)) (by decide) (a := b1) (argsL := [(.ref b69), (.int po), (.int (0 : Int32)), (.int e0v)]) (rest := []) e128 E_130 (rmS0 l Z a0 hw [] b1 b69 aw as am kw ks km (0 : Int32) (0 : Int32) w2 (0 : Int32) c0 s2 (own_mask c0) (own_mask c1) (own_mask c2) 5 f0 po e0v h128 n0 O129 F131 V_132 F133 V_134 F135 V_136 KA0 gn69 I0.1 I0.2.1) 0 (by decide) (by decide) (by decide) (by decide) (mkF m 155 #[.val (.long q0), .second, .val (.int p1), .val (.long q2), .second, .val (.int p3), .val (.long q4), .second, .val (.int p5), .val (.long t0), .second, .val (.long t1), .second, .val (.long t2), .second, .val (.int e0v), .val (.int e1v), .val (.int e2v), .val (.int (p5 &&& (3 : Int32))), .val (.int po), .val (.ref b1), .val (.ref b69), .unset, .unset] [(.int e0v), (.int (0 : Int32)), (.int po), (.ref b69), (.ref b1)]) rfl (by rw [hml]; rfl) (lenOf pd_3 rfl) rfl (hb hby at_155) (Nat.le_of_eq rfl) ?_
  intro v139 T139 L139 X139 hQ139
  obtain ⟨rfl, M139, K139, KA139⟩ := hQ139
  have N139 := Fr.app N128 M139
  have O140 : Old Z n0 T139.heap := O129.keep K139 (allS gn69 all0)
  have E_141 : Exa Z T139.heap b1 "com/example/gieres/gieres/model/TupleTable" := E_130.keep K139
  have F142 : Fld Z T139.heap b1 "com/example/gieres/gieres/model/TupleTable" "word" "[I" (.ref aw) := F131.keep K139 (ninS ne70 nin0)
  have V_143 : Arv Z T139.heap aw kw .int (3 : Int32) [(.int (0 : Int32)), (.int (0 : Int32)), (.int w2)] (.int (0 : Int32)) := V_132.keep K139 (ninS ne71 nin0)
  have F144 : Fld Z T139.heap b1 "com/example/gieres/gieres/model/TupleTable" "shift" "[I" (.ref as) := F133.keep K139 (ninS ne70 nin0)
  have V_145 : Arv Z T139.heap as ks .int (3 : Int32) [(.int (0 : Int32)), (.int c0), (.int s2)] (.int (0 : Int32)) := V_134.keep K139 (ninS ne72 nin0)
  have F146 : Fld Z T139.heap b1 "com/example/gieres/gieres/model/TupleTable" "mask" "[J" (.ref am) := F135.keep K139 (ninS ne70 nin0)
  have V_147 : Arv Z T139.heap am km .long (3 : Int32) [(.long (own_mask c0)), (.long (own_mask c1)), (.long (own_mask c2))] (.long (0 : Int64)) := V_136.keep K139 (ninS ne73 nin0)
  have F148 : Fld Z T139.heap b1 "com/example/gieres/gieres/model/TupleTable" "width" "I" (.int wd) := F137.keep K139 (ninS ne70 nin0)
  obtain ⟨f1, hf1⟩ : ∃ z, z = (fun k => if k = (po + (0 : Int32)).toNatClampNeg then own_set (f0 (po + (0 : Int32)).toNatClampNeg) (own_mask c0) (0 : Int32) e0v else f0 k) := ⟨_, rfl⟩
  rw [← hf1] at KA139
  show Go p e below _ (T139.setTop (mkF m 158 #[.val (.long q0), .second, .val (.int p1), .val (.long q2), .second, .val (.int p3), .val (.long q4), .second, .val (.int p5), .val (.long t0), .second, .val (.long t1), .second, .val (.long t2), .second, .val (.int e0v), .val (.int e1v), .val (.int e2v), .val (.int (p5 &&& (3 : Int32))), .val (.int po), .val (.ref b1), .val (.ref b69), .unset, .unset] []))
  refine Go.st (fun _ => XS.aload X139.here hx rfl (hb hby at_158) rfl rfl) ?_
  show Go p e below _ (T139.setTop (mkF m 160 #[.val (.long q0), .second, .val (.int p1), .val (.long q2), .second, .val (.int p3), .val (.long q4), .second, .val (.int p5), .val (.long t0), .second, .val (.long t1), .second, .val (.long t2), .second, .val (.int e0v), .val (.int e1v), .val (.int e2v), .val (.int (p5 &&& (3 : Int32))), .val (.int po), .val (.ref b1), .val (.ref b69), .unset, .unset] [(.ref b1)]))
  refine Go.st (fun _ => XS.aload X139.here hx rfl (hb hby at_160) rfl rfl) ?_
  show Go p e below _ (T139.setTop (mkF m 162 #[.val (.long q0), .second, .val (.int p1), .val (.long q2), .second, .val (.int p3), .val (.long q4), .second, .val (.int p5), .val (.long t0), .second, .val (.long t1), .second, .val (.long t2), .second, .val (.int e0v), .val (.int e1v), .val (.int e2v), .val (.int (p5 &&& (3 : Int32))), .val (.int po), .val (.ref b1), .val (.ref b69), .unset, .unset] [(.ref b69), (.ref b1)]))
  refine Go.st (fun _ => XS.iload X139.here hx rfl (hb hby at_162) rfl) ?_
  show Go p e below _ (T139.setTop (mkF m 164 #[.val (.long q0), .second, .val (.int p1), .val (.long q2), .second, .val (.int p3), .val (.long q4), .second, .val (.int p5), .val (.long t0), .second, .val (.long t1), .second, .val (.long t2), .second, .val (.int e0v), .val (.int e1v), .val (.int e2v), .val (.int (p5 &&& (3 : Int32))), .val (.int po), .val (.ref b1), .val (.ref b69), .unset, .unset] [(.int po), (.ref b69), (.ref b1)]))
  refine Go.st (fun _ => XS.iconst X139.here hx rfl (hb hby at_164)) ?_
  show Go p e below _ (T139.setTop (mkF m 165 #[.val (.long q0), .second, .val (.int p1), .val (.long q2), .second, .val (.int p3), .val (.long q4), .second, .val (.int p5), .val (.long t0), .second, .val (.long t1), .second, .val (.long t2), .second, .val (.int e0v), .val (.int e1v), .val (.int e2v), .val (.int (p5 &&& (3 : Int32))), .val (.int po), .val (.ref b1), .val (.ref b69), .unset, .unset] [(.int (1 : Int32)), (.int po), (.ref b69), (.ref b1)]))
  refine Go.st (fun _ => XS.iload X139.here hx rfl (hb hby at_165) rfl) ?_
  show Go p e below _ (T139.setTop (mkF m 167 #[.val (.long q0), .second, .val (.int p1), .val (.long q2), .second, .val (.int p3), .val (.long q4), .second, .val (.int p5), .val (.long t0), .second, .val (.long t1), .second, .val (.long t2), .second, .val (.int e0v), .val (.int e1v), .val (.int e2v), .val (.int (p5 &&& (3 : Int32))), .val (.int po), .val (.ref b1), .val (.ref b69), .unset, .unset] [(.int e1v), (.int (1 : Int32)), (.int po), (.ref b69), (.ref b1)]))
  refine goVirt X139 hx hZ (y := (⟨"com/example/gieres/gieres/model/TupleTable", "setState", "([JIII)V"⟩ : MethodName)) (z := (⟨"com/example/gieres/gieres/model/TupleTable", "setState", "([JIII)V"⟩ : MethodName)) hown (hw _ (List.mem_of_getElem? (i := 42) rfl)) (hw _ (List.mem_of_getElem? (i := 43) rfl)) (notFace_of_selects (args := #[]) (mvT hZ (hw _ (List.mem_of_getElem? (i := 45) rfl)))) (hw _ (List.mem_of_getElem? (i := 45) rfl)) (hw _ (List.mem_of_getElem? (i := 44) rfl)) (hw _ (List.mem_of_getElem? (i := 3) rfl)) (hw _ (List.mem_of_getElem? (i := 46) rfl)) (by decide) (a := b1) (argsL := [(.ref b69), (.int po), (.int (1 : Int32)), (.int e1v)]) (rest := []) rfl E_141 (rmS1 l Z a0 hw [] b1 b69 aw as am kw ks km (0 : Int32) (0 : Int32) w2 (0 : Int32) c0 s2 (own_mask c0) (own_mask c1) (own_mask c2) 5 f1 po e1v T139.heap n0 O140 F142 V_143 F144 V_145 F146 V_147 KA139 gn69 I0.1 I0.2.1) 0 (by decide) (by decide) (by decide) (by decide) (mkF m 167 #[.val (.long q0), .second, .val (.int p1), .val (.long q2), .second, .val (.int p3), .val (.long q4), .second, .val (.int p5), .val (.long t0), .second, .val (.long t1), .second, .val (.long t2), .second, .val (.int e0v), .val (.int e1v), .val (.int e2v), .val (.int (p5 &&& (3 : Int32))), .val (.int po), .val (.ref b1), .val (.ref b69), .unset, .unset] [(.int e1v), (.int (1 : Int32)), (.int po), (.ref b69), (.ref b1)]) rfl (by rw [hml]; rfl) (lenOf pd_3 rfl) rfl (hb hby at_167) (Nat.le_of_eq rfl) ?_
  intro v149 T149 L149 X149 hQ149
  obtain ⟨rfl, M149, K149, KA149⟩ := hQ149
  have N149 := Fr.app N139 M149
  have O150 : Old Z n0 T149.heap := O140.keep K149 (allS gn69 all0)
  have E_151 : Exa Z T149.heap b1 "com/example/gieres/gieres/model/TupleTable" := E_141.keep K149
  have F152 : Fld Z T149.heap b1 "com/example/gieres/gieres/model/TupleTable" "word" "[I" (.ref aw) := F142.keep K149 (ninS ne70 nin0)
  have V_153 : Arv Z T149.heap aw kw .int (3 : Int32) [(.int (0 : Int32)), (.int (0 : Int32)), (.int w2)] (.int (0 : Int32)) := V_143.keep K149 (ninS ne71 nin0)
  have F154 : Fld Z T149.heap b1 "com/example/gieres/gieres/model/TupleTable" "shift" "[I" (.ref as) := F144.keep K149 (ninS ne70 nin0)
  have V_155 : Arv Z T149.heap as ks .int (3 : Int32) [(.int (0 : Int32)), (.int c0), (.int s2)] (.int (0 : Int32)) := V_145.keep K149 (ninS ne72 nin0)
  have F156 : Fld Z T149.heap b1 "com/example/gieres/gieres/model/TupleTable" "mask" "[J" (.ref am) := F146.keep K149 (ninS ne70 nin0)
  have V_157 : Arv Z T149.heap am km .long (3 : Int32) [(.long (own_mask c0)), (.long (own_mask c1)), (.long (own_mask c2))] (.long (0 : Int64)) := V_147.keep K149 (ninS ne73 nin0)
  have F158 : Fld Z T149.heap b1 "com/example/gieres/gieres/model/TupleTable" "width" "I" (.int wd) := F148.keep K149 (ninS ne70 nin0)
  obtain ⟨f2, hf2⟩ : ∃ z, z = (fun k => if k = (po + (0 : Int32)).toNatClampNeg then own_set (f1 (po + (0 : Int32)).toNatClampNeg) (own_mask c1) c0 e1v else f1 k) := ⟨_, rfl⟩
  rw [← hf2] at KA149
  show Go p e below _ (T149.setTop (mkF m 170 #[.val (.long q0), .second, .val (.int p1), .val (.long q2), .second, .val (.int p3), .val (.long q4), .second, .val (.int p5), .val (.long t0), .second, .val (.long t1), .second, .val (.long t2), .second, .val (.int e0v), .val (.int e1v), .val (.int e2v), .val (.int (p5 &&& (3 : Int32))), .val (.int po), .val (.ref b1), .val (.ref b69), .unset, .unset] []))
  refine Go.st (fun _ => XS.aload X149.here hx rfl (hb hby at_170) rfl rfl) ?_
  show Go p e below _ (T149.setTop (mkF m 172 #[.val (.long q0), .second, .val (.int p1), .val (.long q2), .second, .val (.int p3), .val (.long q4), .second, .val (.int p5), .val (.long t0), .second, .val (.long t1), .second, .val (.long t2), .second, .val (.int e0v), .val (.int e1v), .val (.int e2v), .val (.int (p5 &&& (3 : Int32))), .val (.int po), .val (.ref b1), .val (.ref b69), .unset, .unset] [(.ref b1)]))
  refine Go.st (fun _ => XS.aload X149.here hx rfl (hb hby at_172) rfl rfl) ?_
  show Go p e below _ (T149.setTop (mkF m 174 #[.val (.long q0), .second, .val (.int p1), .val (.long q2), .second, .val (.int p3), .val (.long q4), .second, .val (.int p5), .val (.long t0), .second, .val (.long t1), .second, .val (.long t2), .second, .val (.int e0v), .val (.int e1v), .val (.int e2v), .val (.int (p5 &&& (3 : Int32))), .val (.int po), .val (.ref b1), .val (.ref b69), .unset, .unset] [(.ref b69), (.ref b1)]))
  refine Go.st (fun _ => XS.iload X149.here hx rfl (hb hby at_174) rfl) ?_
  show Go p e below _ (T149.setTop (mkF m 176 #[.val (.long q0), .second, .val (.int p1), .val (.long q2), .second, .val (.int p3), .val (.long q4), .second, .val (.int p5), .val (.long t0), .second, .val (.long t1), .second, .val (.long t2), .second, .val (.int e0v), .val (.int e1v), .val (.int e2v), .val (.int (p5 &&& (3 : Int32))), .val (.int po), .val (.ref b1), .val (.ref b69), .unset, .unset] [(.int po), (.ref b69), (.ref b1)]))
  refine Go.st (fun _ => XS.iconst X149.here hx rfl (hb hby at_176)) ?_
  show Go p e below _ (T149.setTop (mkF m 177 #[.val (.long q0), .second, .val (.int p1), .val (.long q2), .second, .val (.int p3), .val (.long q4), .second, .val (.int p5), .val (.long t0), .second, .val (.long t1), .second, .val (.long t2), .second, .val (.int e0v), .val (.int e1v), .val (.int e2v), .val (.int (p5 &&& (3 : Int32))), .val (.int po), .val (.ref b1), .val (.ref b69), .unset, .unset] [(.int (2 : Int32)), (.int po), (.ref b69), (.ref b1)]))
  refine Go.st (fun _ => XS.iload X149.here hx rfl (hb hby at_177) rfl) ?_
  show Go p e below _ (T149.setTop (mkF m 179 #[.val (.long q0), .second, .val (.int p1), .val (.long q2), .second, .val (.int p3), .val (.long q4), .second, .val (.int p5), .val (.long t0), .second, .val (.long t1), .second, .val (.long t2), .second, .val (.int e0v), .val (.int e1v), .val (.int e2v), .val (.int (p5 &&& (3 : Int32))), .val (.int po), .val (.ref b1), .val (.ref b69), .unset, .unset] [(.int e2v), (.int (2 : Int32)), (.int po), (.ref b69), (.ref b1)]))
  refine goVirt X149 hx hZ (y := (⟨"com/example/gieres/gieres/model/TupleTable", "setState", "([JIII)V"⟩ : MethodName)) (z := (⟨"com/example/gieres/gieres/model/TupleTable", "setState", "([JIII)V"⟩ : MethodName)) hown (hw _ (List.mem_of_getElem? (i := 42) rfl)) (hw _ (List.mem_of_getElem? (i := 43) rfl)) (notFace_of_selects (args := #[]) (mvT hZ (hw _ (List.mem_of_getElem? (i := 45) rfl)))) (hw _ (List.mem_of_getElem? (i := 45) rfl)) (hw _ (List.mem_of_getElem? (i := 44) rfl)) (hw _ (List.mem_of_getElem? (i := 3) rfl)) (hw _ (List.mem_of_getElem? (i := 46) rfl)) (by decide) (a := b1) (argsL := [(.ref b69), (.int po), (.int (2 : Int32)), (.int e2v)]) (rest := []) rfl E_151 (rmS2 l Z a0 hw [] b1 b69 aw as am kw ks km (0 : Int32) (0 : Int32) w2 (0 : Int32) c0 s2 (own_mask c0) (own_mask c1) (own_mask c2) 5 f2 po e2v T149.heap n0 O150 F152 V_153 F154 V_155 F156 V_157 KA149 gn69 IX.1 IX.2.1) 0 (by decide) (by decide) (by decide) (by decide) (mkF m 179 #[.val (.long q0), .second, .val (.int p1), .val (.long q2), .second, .val (.int p3), .val (.long q4), .second, .val (.int p5), .val (.long t0), .second, .val (.long t1), .second, .val (.long t2), .second, .val (.int e0v), .val (.int e1v), .val (.int e2v), .val (.int (p5 &&& (3 : Int32))), .val (.int po), .val (.ref b1), .val (.ref b69), .unset, .unset] [(.int e2v), (.int (2 : Int32)), (.int po), (.ref b69), (.ref b1)]) rfl (by rw [hml]; rfl) (lenOf pd_3 rfl) rfl (hb hby at_179) (Nat.le_of_eq rfl) ?_
  intro v159 T159 L159 X159 hQ159
  obtain ⟨rfl, M159, K159, KA159⟩ := hQ159
  have N159 := Fr.app N149 M159
  have O160 : Old Z n0 T159.heap := O150.keep K159 (allS gn69 all0)
  have E_161 : Exa Z T159.heap b1 "com/example/gieres/gieres/model/TupleTable" := E_151.keep K159
  have F162 : Fld Z T159.heap b1 "com/example/gieres/gieres/model/TupleTable" "word" "[I" (.ref aw) := F152.keep K159 (ninS ne70 nin0)
  have V_163 : Arv Z T159.heap aw kw .int (3 : Int32) [(.int (0 : Int32)), (.int (0 : Int32)), (.int w2)] (.int (0 : Int32)) := V_153.keep K159 (ninS ne71 nin0)
  have F164 : Fld Z T159.heap b1 "com/example/gieres/gieres/model/TupleTable" "shift" "[I" (.ref as) := F154.keep K159 (ninS ne70 nin0)
  have V_165 : Arv Z T159.heap as ks .int (3 : Int32) [(.int (0 : Int32)), (.int c0), (.int s2)] (.int (0 : Int32)) := V_155.keep K159 (ninS ne72 nin0)
  have F166 : Fld Z T159.heap b1 "com/example/gieres/gieres/model/TupleTable" "mask" "[J" (.ref am) := F156.keep K159 (ninS ne70 nin0)
  have V_167 : Arv Z T159.heap am km .long (3 : Int32) [(.long (own_mask c0)), (.long (own_mask c1)), (.long (own_mask c2))] (.long (0 : Int64)) := V_157.keep K159 (ninS ne73 nin0)
  have F168 : Fld Z T159.heap b1 "com/example/gieres/gieres/model/TupleTable" "width" "I" (.int wd) := F158.keep K159 (ninS ne70 nin0)
  obtain ⟨f3, hf3⟩ : ∃ z, z = (fun k => if k = (po + w2).toNatClampNeg then own_set (f2 (po + w2).toNatClampNeg) (own_mask c2) s2 e2v else f2 k) := ⟨_, rfl⟩
  rw [← hf3] at KA159
  show Go p e below _ (T159.setTop (mkF m 182 #[.val (.long q0), .second, .val (.int p1), .val (.long q2), .second, .val (.int p3), .val (.long q4), .second, .val (.int p5), .val (.long t0), .second, .val (.long t1), .second, .val (.long t2), .second, .val (.int e0v), .val (.int e1v), .val (.int e2v), .val (.int (p5 &&& (3 : Int32))), .val (.int po), .val (.ref b1), .val (.ref b69), .unset, .unset] []))
  obtain ⟨EV0, EV1, EV2⟩ := own_final B0 B1 B2 LY hf1 hf2 hf3 (fun q => (IX.2.2.1 q)) (fun q => (IX.2.2.2 q)) R0R R1R R2R he0 he1 he2
  rcases own_and3 p5 with ql | ql | ql | ql
  · rw [ql]
    show Go p e below _ (T159.setTop (mkF m 182 #[.val (.long q0), .second, .val (.int p1), .val (.long q2), .second, .val (.int p3), .val (.long q4), .second, .val (.int p5), .val (.long t0), .second, .val (.long t1), .second, .val (.long t2), .second, .val (.int e0v), .val (.int e1v), .val (.int e2v), .val (.int (0 : Int32)), .val (.int po), .val (.ref b1), .val (.ref b69), .unset, .unset] []))
    refine Go.st (fun _ => XS.iload X159.here hx rfl (hb hby at_182) rfl) ?_
    show Go p e below _ (T159.setTop (mkF m 184 #[.val (.long q0), .second, .val (.int p1), .val (.long q2), .second, .val (.int p3), .val (.long q4), .second, .val (.int p5), .val (.long t0), .second, .val (.long t1), .second, .val (.long t2), .second, .val (.int e0v), .val (.int e1v), .val (.int e2v), .val (.int (0 : Int32)), .val (.int po), .val (.ref b1), .val (.ref b69), .unset, .unset] [(.int (0 : Int32))]))
    obtain ⟨T169, h169, k169, X169, e169, E169, A169, st169⟩ := newP X159 hx hZ (hw _ (List.mem_of_getElem? (i := 17) rfl)) rfl (g := (mkF m 184 #[.val (.long q0), .second, .val (.int p1), .val (.long q2), .second, .val (.int p3), .val (.long q4), .second, .val (.int p5), .val (.long t0), .second, .val (.long t1), .second, .val (.long t2), .second, .val (.int e0v), .val (.int e1v), .val (.int e2v), .val (.int (0 : Int32)), .val (.int po), .val (.ref b1), .val (.ref b69), .unset, .unset] [(.int (0 : Int32))])) rfl (hb hby at_184) rfl (by decide) (cap := 0) (by decide) (by decide) (by decide) (by decide)
    obtain ⟨b169, g169⟩ : ∃ z, z = T159.heap.size := ⟨_, rfl⟩
    rw [← g169] at A169 st169
    refine Go.st st169 ?_
    have gn169 : n0 ≤ b169 := oldGe O160 g169
    have ne170 : b1 ≠ b169 := Nat.ne_of_lt (Nat.lt_of_lt_of_le E_161.lt (Nat.le_of_eq g169.symm))
    have ne171 : aw ≠ b169 := Nat.ne_of_lt (Nat.lt_of_lt_of_le V_163.lt (Nat.le_of_eq g169.symm))
    have ne172 : as ≠ b169 := Nat.ne_of_lt (Nat.lt_of_lt_of_le V_165.lt (Nat.le_of_eq g169.symm))
    have ne173 : am ≠ b169 := Nat.ne_of_lt (Nat.lt_of_lt_of_le V_167.lt (Nat.le_of_eq g169.symm))
    have ne174 : b69 ≠ b169 := Nat.ne_of_lt (Nat.lt_of_lt_of_le (LAr_lt KA159) (Nat.le_of_eq g169.symm))
    have O175 : Old Z n0 h169 := O160.ext E169
    have E_176 : Exa Z h169 b1 "com/example/gieres/gieres/model/TupleTable" := E_161.ext E169
    have F177 : Fld Z h169 b1 "com/example/gieres/gieres/model/TupleTable" "word" "[I" (.ref aw) := F162.ext E169
    have V_178 : Arv Z h169 aw kw .int (3 : Int32) [(.int (0 : Int32)), (.int (0 : Int32)), (.int w2)] (.int (0 : Int32)) := V_163.ext E169
    have F179 : Fld Z h169 b1 "com/example/gieres/gieres/model/TupleTable" "shift" "[I" (.ref as) := F164.ext E169
    have V_180 : Arv Z h169 as ks .int (3 : Int32) [(.int (0 : Int32)), (.int c0), (.int s2)] (.int (0 : Int32)) := V_165.ext E169
    have F181 : Fld Z h169 b1 "com/example/gieres/gieres/model/TupleTable" "mask" "[J" (.ref am) := F166.ext E169
    have V_182 : Arv Z h169 am km .long (3 : Int32) [(.long (own_mask c0)), (.long (own_mask c1)), (.long (own_mask c2))] (.long (0 : Int64)) := V_167.ext E169
    have F183 : Fld Z h169 b1 "com/example/gieres/gieres/model/TupleTable" "width" "I" (.int wd) := F168.ext E169
    have VL184 : LAr Z h169 b69 5 f3 := LAr_ext KA159 E169
    have V_185 : Arv Z h169 b169 k169 .int (0 : Int32) [] (.int (0 : Int32)) := (Arv.new A169 (by decide)).pad (pad_rep [] (.int (0 : Int32)) 0)
    show Go p e below _ (T169.setTop (mkF m 186 #[.val (.long q0), .second, .val (.int p1), .val (.long q2), .second, .val (.int p3), .val (.long q4), .second, .val (.int p5), .val (.long t0), .second, .val (.long t1), .second, .val (.long t2), .second, .val (.int e0v), .val (.int e1v), .val (.int e2v), .val (.int (0 : Int32)), .val (.int po), .val (.ref b1), .val (.ref b69), .unset, .unset] [(.ref b169)]))
    refine Go.st (fun _ => XS.astore X169.here hx rfl (hb hby at_186) rfl rfl (l' := #[.val (.long q0), .second, .val (.int p1), .val (.long q2), .second, .val (.int p3), .val (.long q4), .second, .val (.int p5), .val (.long t0), .second, .val (.long t1), .second, .val (.long t2), .second, .val (.int e0v), .val (.int e1v), .val (.int e2v), .val (.int (0 : Int32)), .val (.int po), .val (.ref b1), .val (.ref b69), .val (.ref b169), .unset]) rfl) ?_
    show Go p e below _ (T169.setTop (mkF m 188 #[.val (.long q0), .second, .val (.int p1), .val (.long q2), .second, .val (.int p3), .val (.long q4), .second, .val (.int p5), .val (.long t0), .second, .val (.long t1), .second, .val (.long t2), .second, .val (.int e0v), .val (.int e1v), .val (.int e2v), .val (.int (0 : Int32)), .val (.int po), .val (.ref b1), .val (.ref b69), .val (.ref b169), .unset] []))
    refine Go.st (fun _ => XS.iload X169.here hx rfl (hb hby at_188) rfl) ?_
    show Go p e below _ (T169.setTop (mkF m 190 #[.val (.long q0), .second, .val (.int p1), .val (.long q2), .second, .val (.int p3), .val (.long q4), .second, .val (.int p5), .val (.long t0), .second, .val (.long t1), .second, .val (.long t2), .second, .val (.int e0v), .val (.int e1v), .val (.int e2v), .val (.int (0 : Int32)), .val (.int po), .val (.ref b1), .val (.ref b69), .val (.ref b169), .unset] [(.int (0 : Int32))]))
    refine Go.st (fun _ => XS.ifYes X169.here hx rfl (pc0 := 190) (pc' := 201) rfl (hb hby at_190) rfl ((if0 _ _).trans (flt (by decide : ¬ ((0 : Int32) < (0 : Int32)))).2.2.2) (by decide) (by decide)) ?_
    show Go p e below _ (T169.setTop (mkF m 201 #[.val (.long q0), .second, .val (.int p1), .val (.long q2), .second, .val (.int p3), .val (.long q4), .second, .val (.int p5), .val (.long t0), .second, .val (.long t1), .second, .val (.long t2), .second, .val (.int e0v), .val (.int e1v), .val (.int e2v), .val (.int (0 : Int32)), .val (.int po), .val (.ref b1), .val (.ref b69), .val (.ref b169), .unset] []))
    refine Go.st (fun _ => XS.iload X169.here hx rfl (hb hby at_201) rfl) ?_
    show Go p e below _ (T169.setTop (mkF m 203 #[.val (.long q0), .second, .val (.int p1), .val (.long q2), .second, .val (.int p3), .val (.long q4), .second, .val (.int p5), .val (.long t0), .second, .val (.long t1), .second, .val (.long t2), .second, .val (.int e0v), .val (.int e1v), .val (.int e2v), .val (.int (0 : Int32)), .val (.int po), .val (.ref b1), .val (.ref b69), .val (.ref b169), .unset] [(.int (0 : Int32))]))
    refine Go.st (fun _ => XS.iconst X169.here hx rfl (hb hby at_203)) ?_
    show Go p e below _ (T169.setTop (mkF m 204 #[.val (.long q0), .second, .val (.int p1), .val (.long q2), .second, .val (.int p3), .val (.long q4), .second, .val (.int p5), .val (.long t0), .second, .val (.long t1), .second, .val (.long t2), .second, .val (.int e0v), .val (.int e1v), .val (.int e2v), .val (.int (0 : Int32)), .val (.int po), .val (.ref b1), .val (.ref b69), .val (.ref b169), .unset] [(.int (1 : Int32)), (.int (0 : Int32))]))
    refine Go.st (fun _ => XS.icmpYes X169.here hx rfl (pc0 := 204) (pc' := 215) rfl (hb hby at_204) rfl (flt (by decide : ¬ ((1 : Int32) < (0 : Int32)))).2.2.2 (by decide) (by decide)) ?_
    show Go p e below _ (T169.setTop (mkF m 215 #[.val (.long q0), .second, .val (.int p1), .val (.long q2), .second, .val (.int p3), .val (.long q4), .second, .val (.int p5), .val (.long t0), .second, .val (.long t1), .second, .val (.long t2), .second, .val (.int e0v), .val (.int e1v), .val (.int e2v), .val (.int (0 : Int32)), .val (.int po), .val (.ref b1), .val (.ref b69), .val (.ref b169), .unset] []))
    refine Go.st (fun _ => XS.iload X169.here hx rfl (hb hby at_215) rfl) ?_
    show Go p e below _ (T169.setTop (mkF m 217 #[.val (.long q0), .second, .val (.int p1), .val (.long q2), .second, .val (.int p3), .val (.long q4), .second, .val (.int p5), .val (.long t0), .second, .val (.long t1), .second, .val (.long t2), .second, .val (.int e0v), .val (.int e1v), .val (.int e2v), .val (.int (0 : Int32)), .val (.int po), .val (.ref b1), .val (.ref b69), .val (.ref b169), .unset] [(.int (0 : Int32))]))
    refine Go.st (fun _ => XS.iconst X169.here hx rfl (hb hby at_217)) ?_
    show Go p e below _ (T169.setTop (mkF m 218 #[.val (.long q0), .second, .val (.int p1), .val (.long q2), .second, .val (.int p3), .val (.long q4), .second, .val (.int p5), .val (.long t0), .second, .val (.long t1), .second, .val (.long t2), .second, .val (.int e0v), .val (.int e1v), .val (.int e2v), .val (.int (0 : Int32)), .val (.int po), .val (.ref b1), .val (.ref b69), .val (.ref b169), .unset] [(.int (2 : Int32)), (.int (0 : Int32))]))
    refine Go.st (fun _ => XS.icmpYes X169.here hx rfl (pc0 := 218) (pc' := 229) rfl (hb hby at_218) rfl (flt (by decide : ¬ ((2 : Int32) < (0 : Int32)))).2.2.2 (by decide) (by decide)) ?_
    show Go p e below _ (T169.setTop (mkF m 229 #[.val (.long q0), .second, .val (.int p1), .val (.long q2), .second, .val (.int p3), .val (.long q4), .second, .val (.int p5), .val (.long t0), .second, .val (.long t1), .second, .val (.long t2), .second, .val (.int e0v), .val (.int e1v), .val (.int e2v), .val (.int (0 : Int32)), .val (.int po), .val (.ref b1), .val (.ref b69), .val (.ref b169), .unset] []))
    refine Go.st (fun _ => XS.aload X169.here hx rfl (hb hby at_229) rfl rfl) ?_
    show Go p e below _ (T169.setTop (mkF m 231 #[.val (.long q0), .second, .val (.int p1), .val (.long q2), .second, .val (.int p3), .val (.long q4), .second, .val (.int p5), .val (.long t0), .second, .val (.long t1), .second, .val (.long t2), .second, .val (.int e0v), .val (.int e1v), .val (.int e2v), .val (.int (0 : Int32)), .val (.int po), .val (.ref b1), .val (.ref b69), .val (.ref b169), .unset] [(.ref b1)]))
    refine Go.st (fun _ => XS.aload X169.here hx rfl (hb hby at_231) rfl rfl) ?_
    show Go p e below _ (T169.setTop (mkF m 233 #[.val (.long q0), .second, .val (.int p1), .val (.long q2), .second, .val (.int p3), .val (.long q4), .second, .val (.int p5), .val (.long t0), .second, .val (.long t1), .second, .val (.long t2), .second, .val (.int e0v), .val (.int e1v), .val (.int e2v), .val (.int (0 : Int32)), .val (.int po), .val (.ref b1), .val (.ref b69), .val (.ref b169), .unset] [(.ref b69), (.ref b1)]))
    refine Go.st (fun _ => XS.iload X169.here hx rfl (hb hby at_233) rfl) ?_
    show Go p e below _ (T169.setTop (mkF m 235 #[.val (.long q0), .second, .val (.int p1), .val (.long q2), .second, .val (.int p3), .val (.long q4), .second, .val (.int p5), .val (.long t0), .second, .val (.long t1), .second, .val (.long t2), .second, .val (.int e0v), .val (.int e1v), .val (.int e2v), .val (.int (0 : Int32)), .val (.int po), .val (.ref b1), .val (.ref b69), .val (.ref b169), .unset] [(.int po), (.ref b69), (.ref b1)]))
    refine Go.st (fun _ => XS.aload X169.here hx rfl (hb hby at_235) rfl rfl) ?_
    show Go p e below _ (T169.setTop (mkF m 237 #[.val (.long q0), .second, .val (.int p1), .val (.long q2), .second, .val (.int p3), .val (.long q4), .second, .val (.int p5), .val (.long t0), .second, .val (.long t1), .second, .val (.long t2), .second, .val (.int e0v), .val (.int e1v), .val (.int e2v), .val (.int (0 : Int32)), .val (.int po), .val (.ref b1), .val (.ref b69), .val (.ref b169), .unset] [(.ref b169), (.int po), (.ref b69), (.ref b1)]))
    refine goVirt X169 hx hZ (y := (⟨"com/example/gieres/gieres/model/TupleTable", "states", "([JI[I)V"⟩ : MethodName)) (z := (⟨"com/example/gieres/gieres/model/TupleTable", "states", "([JI[I)V"⟩ : MethodName)) hown (hw _ (List.mem_of_getElem? (i := 48) rfl)) (hw _ (List.mem_of_getElem? (i := 49) rfl)) (notFace_of_selects (args := #[]) (mvT hZ (hw _ (List.mem_of_getElem? (i := 51) rfl)))) (hw _ (List.mem_of_getElem? (i := 51) rfl)) (hw _ (List.mem_of_getElem? (i := 50) rfl)) (hw _ (List.mem_of_getElem? (i := 3) rfl)) (hw _ (List.mem_of_getElem? (i := 52) rfl)) (by decide) (a := b1) (argsL := [(.ref b69), (.int po), (.ref b169)]) (rest := []) e169 E_176 (rmT0 l Z a0 hw [] b1 b69 b169 aw as am kw ks km (0 : Int32) (0 : Int32) w2 (0 : Int32) c0 s2 (own_mask c0) (own_mask c1) (own_mask c2) 5 f3 k169 po wd  h169 n0 O175 F177 V_178 F179 V_180 F181 V_182 F183 VL184 V_185 gn169 ne170 ne174 ne171 ne172 ne173 hpb.1 (by have := hpb.2; omega) I0.1 I0.2.1 I0.1 I0.2.1 IX.1 IX.2.1 (fun q => ⟨rfl, rfl, LW.2 q⟩)) 0 (by decide) (by decide) (by decide) (by decide) (mkF m 237 #[.val (.long q0), .second, .val (.int p1), .val (.long q2), .second, .val (.int p3), .val (.long q4), .second, .val (.int p5), .val (.long t0), .second, .val (.long t1), .second, .val (.long t2), .second, .val (.int e0v), .val (.int e1v), .val (.int e2v), .val (.int (0 : Int32)), .val (.int po), .val (.ref b1), .val (.ref b69), .val (.ref b169), .unset] [(.ref b169), (.int po), (.ref b69), (.ref b1)]) rfl (by rw [hml]; rfl) (lenOf pd_4 rfl) rfl (hb hby at_237) (Nat.le_of_eq rfl) ?_
    intro v186 T186 L186 X186 hQ186
    obtain ⟨rfl, M186, K186, VI186⟩ := hQ186
    have N186 := Fr.app N159 M186
    have O187 : Old Z n0 T186.heap := O175.keep K186 (allS gn169 all0)
    have E_188 : Exa Z T186.heap b1 "com/example/gieres/gieres/model/TupleTable" := E_176.keep K186
    have F189 : Fld Z T186.heap b1 "com/example/gieres/gieres/model/TupleTable" "word" "[I" (.ref aw) := F177.keep K186 (ninS ne170 nin0)
    have V_190 : Arv Z T186.heap aw kw .int (3 : Int32) [(.int (0 : Int32)), (.int (0 : Int32)), (.int w2)] (.int (0 : Int32)) := V_178.keep K186 (ninS ne171 nin0)
    have F191 : Fld Z T186.heap b1 "com/example/gieres/gieres/model/TupleTable" "shift" "[I" (.ref as) := F179.keep K186 (ninS ne170 nin0)
    have V_192 : Arv Z T186.heap as ks .int (3 : Int32) [(.int (0 : Int32)), (.int c0), (.int s2)] (.int (0 : Int32)) := V_180.keep K186 (ninS ne172 nin0)
    have F193 : Fld Z T186.heap b1 "com/example/gieres/gieres/model/TupleTable" "mask" "[J" (.ref am) := F181.keep K186 (ninS ne170 nin0)
    have V_194 : Arv Z T186.heap am km .long (3 : Int32) [(.long (own_mask c0)), (.long (own_mask c1)), (.long (own_mask c2))] (.long (0 : Int64)) := V_182.keep K186 (ninS ne173 nin0)
    have F195 : Fld Z T186.heap b1 "com/example/gieres/gieres/model/TupleTable" "width" "I" (.int wd) := F183.keep K186 (ninS ne170 nin0)
    have VL196 : LAr Z T186.heap b69 5 f3 := LAr_keep VL184 K186 (ninS ne174 nin0)
    have VJ186 := VI186
    show Go p e below _ (T186.setTop (mkF m 240 #[.val (.long q0), .second, .val (.int p1), .val (.long q2), .second, .val (.int p3), .val (.long q4), .second, .val (.int p5), .val (.long t0), .second, .val (.long t1), .second, .val (.long t2), .second, .val (.int e0v), .val (.int e1v), .val (.int e2v), .val (.int (0 : Int32)), .val (.int po), .val (.ref b1), .val (.ref b69), .val (.ref b169), .unset] []))
    refine Go.st (fun _ => XS.aload X186.here hx rfl (hb hby at_240) rfl rfl) ?_
    show Go p e below _ (T186.setTop (mkF m 242 #[.val (.long q0), .second, .val (.int p1), .val (.long q2), .second, .val (.int p3), .val (.long q4), .second, .val (.int p5), .val (.long t0), .second, .val (.long t1), .second, .val (.long t2), .second, .val (.int e0v), .val (.int e1v), .val (.int e2v), .val (.int (0 : Int32)), .val (.int po), .val (.ref b1), .val (.ref b69), .val (.ref b169), .unset] [(.ref b169)]))
    obtain ⟨cl197, Ar197, qk197, Sz197, Nn197, Ha197, Ga197⟩ := id VJ186
    refine Go.st (fun _ => X186.arraylength hx Ar197.1 (State.isArrayOf_alike hZ.alike Ar197.2.1) (g := (mkF m 242 #[.val (.long q0), .second, .val (.int p1), .val (.long q2), .second, .val (.int p3), .val (.long q4), .second, .val (.int p5), .val (.long t0), .second, .val (.long t1), .second, .val (.long t2), .second, .val (.int e0v), .val (.int e1v), .val (.int e2v), .val (.int (0 : Int32)), .val (.int po), .val (.ref b1), .val (.ref b69), .val (.ref b169), .unset] [(.ref b169)])) rfl rfl (hb hby at_242) _) ?_
    rw [len_of Sz197 Nn197]
    show Go p e below _ (T186.setTop (mkF m 243 #[.val (.long q0), .second, .val (.int p1), .val (.long q2), .second, .val (.int p3), .val (.long q4), .second, .val (.int p5), .val (.long t0), .second, .val (.long t1), .second, .val (.long t2), .second, .val (.int e0v), .val (.int e1v), .val (.int e2v), .val (.int (0 : Int32)), .val (.int po), .val (.ref b1), .val (.ref b69), .val (.ref b169), .unset] [(.int (0 : Int32))]))
    refine Go.st (fun _ => XS.iload X186.here hx rfl (hb hby at_243) rfl) ?_
    show Go p e below _ (T186.setTop (mkF m 245 #[.val (.long q0), .second, .val (.int p1), .val (.long q2), .second, .val (.int p3), .val (.long q4), .second, .val (.int p5), .val (.long t0), .second, .val (.long t1), .second, .val (.long t2), .second, .val (.int e0v), .val (.int e1v), .val (.int e2v), .val (.int (0 : Int32)), .val (.int po), .val (.ref b1), .val (.ref b69), .val (.ref b169), .unset] [(.int (0 : Int32)), (.int (0 : Int32))]))
    refine Go.st (fun _ => XS.icmpNo X186.here hx rfl (hb hby at_245) rfl (teq (by decide : (0 : Int32) = (0 : Int32))).2) ?_
    show Go p e below _ (T186.setTop (mkF m 248 #[.val (.long q0), .second, .val (.int p1), .val (.long q2), .second, .val (.int p3), .val (.long q4), .second, .val (.int p5), .val (.long t0), .second, .val (.long t1), .second, .val (.long t2), .second, .val (.int e0v), .val (.int e1v), .val (.int e2v), .val (.int (0 : Int32)), .val (.int po), .val (.ref b1), .val (.ref b69), .val (.ref b169), .unset] []))
    refine Go.st (fun _ => XS.iconst X186.here hx rfl (hb hby at_248)) ?_
    show Go p e below _ (T186.setTop (mkF m 249 #[.val (.long q0), .second, .val (.int p1), .val (.long q2), .second, .val (.int p3), .val (.long q4), .second, .val (.int p5), .val (.long t0), .second, .val (.long t1), .second, .val (.long t2), .second, .val (.int e0v), .val (.int e1v), .val (.int e2v), .val (.int (0 : Int32)), .val (.int po), .val (.ref b1), .val (.ref b69), .val (.ref b169), .unset] [(.int (1 : Int32))]))
    refine Go.st (fun _ => XS.goto X186.here hx rfl (pc0 := 249) (pc' := 253) rfl (hb hby at_249) (by decide) (by decide)) ?_
    show Go p e below _ (T186.setTop (mkF m 253 #[.val (.long q0), .second, .val (.int p1), .val (.long q2), .second, .val (.int p3), .val (.long q4), .second, .val (.int p5), .val (.long t0), .second, .val (.long t1), .second, .val (.long t2), .second, .val (.int e0v), .val (.int e1v), .val (.int e2v), .val (.int (0 : Int32)), .val (.int po), .val (.ref b1), .val (.ref b69), .val (.ref b169), .unset] [(.int (1 : Int32))]))
    refine Go.st (fun _ => XS.istore X186.here hx rfl (hb hby at_253) rfl (l' := #[.val (.long q0), .second, .val (.int p1), .val (.long q2), .second, .val (.int p3), .val (.long q4), .second, .val (.int p5), .val (.long t0), .second, .val (.long t1), .second, .val (.long t2), .second, .val (.int e0v), .val (.int e1v), .val (.int e2v), .val (.int (0 : Int32)), .val (.int po), .val (.ref b1), .val (.ref b69), .val (.ref b169), .val (.int (1 : Int32))]) rfl) ?_
    show Go p e below _ (T186.setTop (mkF m 255 #[.val (.long q0), .second, .val (.int p1), .val (.long q2), .second, .val (.int p3), .val (.long q4), .second, .val (.int p5), .val (.long t0), .second, .val (.long t1), .second, .val (.long t2), .second, .val (.int e0v), .val (.int e1v), .val (.int e2v), .val (.int (0 : Int32)), .val (.int po), .val (.ref b1), .val (.ref b69), .val (.ref b169), .val (.int (1 : Int32))] []))
    refine Go.st (fun _ => XS.iload X186.here hx rfl (hb hby at_255) rfl) ?_
    show Go p e below _ (T186.setTop (mkF m 257 #[.val (.long q0), .second, .val (.int p1), .val (.long q2), .second, .val (.int p3), .val (.long q4), .second, .val (.int p5), .val (.long t0), .second, .val (.long t1), .second, .val (.long t2), .second, .val (.int e0v), .val (.int e1v), .val (.int e2v), .val (.int (0 : Int32)), .val (.int po), .val (.ref b1), .val (.ref b69), .val (.ref b169), .val (.int (1 : Int32))] [(.int (0 : Int32))]))
    refine Go.st (fun _ => XS.ifYes X186.here hx rfl (pc0 := 257) (pc' := 281) rfl (hb hby at_257) rfl ((if0 _ _).trans (flt (by decide : ¬ ((0 : Int32) < (0 : Int32)))).2.2.2) (by decide) (by decide)) ?_
    show Go p e below _ (T186.setTop (mkF m 281 #[.val (.long q0), .second, .val (.int p1), .val (.long q2), .second, .val (.int p3), .val (.long q4), .second, .val (.int p5), .val (.long t0), .second, .val (.long t1), .second, .val (.long t2), .second, .val (.int e0v), .val (.int e1v), .val (.int e2v), .val (.int (0 : Int32)), .val (.int po), .val (.ref b1), .val (.ref b69), .val (.ref b169), .val (.int (1 : Int32))] []))
    refine Go.st (fun _ => XS.iload X186.here hx rfl (hb hby at_281) rfl) ?_
    show Go p e below _ (T186.setTop (mkF m 283 #[.val (.long q0), .second, .val (.int p1), .val (.long q2), .second, .val (.int p3), .val (.long q4), .second, .val (.int p5), .val (.long t0), .second, .val (.long t1), .second, .val (.long t2), .second, .val (.int e0v), .val (.int e1v), .val (.int e2v), .val (.int (0 : Int32)), .val (.int po), .val (.ref b1), .val (.ref b69), .val (.ref b169), .val (.int (1 : Int32))] [(.int (0 : Int32))]))
    refine Go.st (fun _ => XS.iconst X186.here hx rfl (hb hby at_283)) ?_
    show Go p e below _ (T186.setTop (mkF m 284 #[.val (.long q0), .second, .val (.int p1), .val (.long q2), .second, .val (.int p3), .val (.long q4), .second, .val (.int p5), .val (.long t0), .second, .val (.long t1), .second, .val (.long t2), .second, .val (.int e0v), .val (.int e1v), .val (.int e2v), .val (.int (0 : Int32)), .val (.int po), .val (.ref b1), .val (.ref b69), .val (.ref b169), .val (.int (1 : Int32))] [(.int (1 : Int32)), (.int (0 : Int32))]))
    refine Go.st (fun _ => XS.icmpYes X186.here hx rfl (pc0 := 284) (pc' := 308) rfl (hb hby at_284) rfl (flt (by decide : ¬ ((1 : Int32) < (0 : Int32)))).2.2.2 (by decide) (by decide)) ?_
    show Go p e below _ (T186.setTop (mkF m 308 #[.val (.long q0), .second, .val (.int p1), .val (.long q2), .second, .val (.int p3), .val (.long q4), .second, .val (.int p5), .val (.long t0), .second, .val (.long t1), .second, .val (.long t2), .second, .val (.int e0v), .val (.int e1v), .val (.int e2v), .val (.int (0 : Int32)), .val (.int po), .val (.ref b1), .val (.ref b69), .val (.ref b169), .val (.int (1 : Int32))] []))
    refine Go.st (fun _ => XS.iload X186.here hx rfl (hb hby at_308) rfl) ?_
    show Go p e below _ (T186.setTop (mkF m 310 #[.val (.long q0), .second, .val (.int p1), .val (.long q2), .second, .val (.int p3), .val (.long q4), .second, .val (.int p5), .val (.long t0), .second, .val (.long t1), .second, .val (.long t2), .second, .val (.int e0v), .val (.int e1v), .val (.int e2v), .val (.int (0 : Int32)), .val (.int po), .val (.ref b1), .val (.ref b69), .val (.ref b169), .val (.int (1 : Int32))] [(.int (0 : Int32))]))
    refine Go.st (fun _ => XS.iconst X186.here hx rfl (hb hby at_310)) ?_
    show Go p e below _ (T186.setTop (mkF m 311 #[.val (.long q0), .second, .val (.int p1), .val (.long q2), .second, .val (.int p3), .val (.long q4), .second, .val (.int p5), .val (.long t0), .second, .val (.long t1), .second, .val (.long t2), .second, .val (.int e0v), .val (.int e1v), .val (.int e2v), .val (.int (0 : Int32)), .val (.int po), .val (.ref b1), .val (.ref b69), .val (.ref b169), .val (.int (1 : Int32))] [(.int (2 : Int32)), (.int (0 : Int32))]))
    refine Go.st (fun _ => XS.icmpYes X186.here hx rfl (pc0 := 311) (pc' := 335) rfl (hb hby at_311) rfl (flt (by decide : ¬ ((2 : Int32) < (0 : Int32)))).2.2.2 (by decide) (by decide)) ?_
    show Go p e below _ (T186.setTop (mkF m 335 #[.val (.long q0), .second, .val (.int p1), .val (.long q2), .second, .val (.int p3), .val (.long q4), .second, .val (.int p5), .val (.long t0), .second, .val (.long t1), .second, .val (.long t2), .second, .val (.int e0v), .val (.int e1v), .val (.int e2v), .val (.int (0 : Int32)), .val (.int po), .val (.ref b1), .val (.ref b69), .val (.ref b169), .val (.int (1 : Int32))] []))
    refine Go.st (fun _ => XS.iload X186.here hx rfl (hb hby at_335) rfl) ?_
    show Go p e below _ (T186.setTop (mkF m 337 #[.val (.long q0), .second, .val (.int p1), .val (.long q2), .second, .val (.int p3), .val (.long q4), .second, .val (.int p5), .val (.long t0), .second, .val (.long t1), .second, .val (.long t2), .second, .val (.int e0v), .val (.int e1v), .val (.int e2v), .val (.int (0 : Int32)), .val (.int po), .val (.ref b1), .val (.ref b69), .val (.ref b169), .val (.int (1 : Int32))] [(.int (1 : Int32))]))
    exact goRetN X186 hx hlk hret (t := .boolean) (by simp) (w := (1 : Int32)) (by decide) rfl (hb hby at_337) (by decide) (by decide) ⟨rfl, N186⟩
  · rw [ql]
    show Go p e below _ (T159.setTop (mkF m 182 #[.val (.long q0), .second, .val (.int p1), .val (.long q2), .second, .val (.int p3), .val (.long q4), .second, .val (.int p5), .val (.long t0), .second, .val (.long t1), .second, .val (.long t2), .second, .val (.int e0v), .val (.int e1v), .val (.int e2v), .val (.int (1 : Int32)), .val (.int po), .val (.ref b1), .val (.ref b69), .unset, .unset] []))
    refine Go.st (fun _ => XS.iload X159.here hx rfl (hb hby at_182) rfl) ?_
    show Go p e below _ (T159.setTop (mkF m 184 #[.val (.long q0), .second, .val (.int p1), .val (.long q2), .second, .val (.int p3), .val (.long q4), .second, .val (.int p5), .val (.long t0), .second, .val (.long t1), .second, .val (.long t2), .second, .val (.int e0v), .val (.int e1v), .val (.int e2v), .val (.int (1 : Int32)), .val (.int po), .val (.ref b1), .val (.ref b69), .unset, .unset] [(.int (1 : Int32))]))
    obtain ⟨T198, h198, k198, X198, e198, E198, A198, st198⟩ := newP X159 hx hZ (hw _ (List.mem_of_getElem? (i := 17) rfl)) rfl (g := (mkF m 184 #[.val (.long q0), .second, .val (.int p1), .val (.long q2), .second, .val (.int p3), .val (.long q4), .second, .val (.int p5), .val (.long t0), .second, .val (.long t1), .second, .val (.long t2), .second, .val (.int e0v), .val (.int e1v), .val (.int e2v), .val (.int (1 : Int32)), .val (.int po), .val (.ref b1), .val (.ref b69), .unset, .unset] [(.int (1 : Int32))])) rfl (hb hby at_184) rfl (by decide) (cap := 1) (by decide) (by decide) (by decide) (by decide)
    obtain ⟨b198, g198⟩ : ∃ z, z = T159.heap.size := ⟨_, rfl⟩
    rw [← g198] at A198 st198
    refine Go.st st198 ?_
    have gn198 : n0 ≤ b198 := oldGe O160 g198
    have ne199 : b1 ≠ b198 := Nat.ne_of_lt (Nat.lt_of_lt_of_le E_161.lt (Nat.le_of_eq g198.symm))
    have ne200 : aw ≠ b198 := Nat.ne_of_lt (Nat.lt_of_lt_of_le V_163.lt (Nat.le_of_eq g198.symm))
    have ne201 : as ≠ b198 := Nat.ne_of_lt (Nat.lt_of_lt_of_le V_165.lt (Nat.le_of_eq g198.symm))
    have ne202 : am ≠ b198 := Nat.ne_of_lt (Nat.lt_of_lt_of_le V_167.lt (Nat.le_of_eq g198.symm))
    have ne203 : b69 ≠ b198 := Nat.ne_of_lt (Nat.lt_of_lt_of_le (LAr_lt KA159) (Nat.le_of_eq g198.symm))
    have O204 : Old Z n0 h198 := O160.ext E198
    have E_205 : Exa Z h198 b1 "com/example/gieres/gieres/model/TupleTable" := E_161.ext E198
    have F206 : Fld Z h198 b1 "com/example/gieres/gieres/model/TupleTable" "word" "[I" (.ref aw) := F162.ext E198
    have V_207 : Arv Z h198 aw kw .int (3 : Int32) [(.int (0 : Int32)), (.int (0 : Int32)), (.int w2)] (.int (0 : Int32)) := V_163.ext E198
    have F208 : Fld Z h198 b1 "com/example/gieres/gieres/model/TupleTable" "shift" "[I" (.ref as) := F164.ext E198
    have V_209 : Arv Z h198 as ks .int (3 : Int32) [(.int (0 : Int32)), (.int c0), (.int s2)] (.int (0 : Int32)) := V_165.ext E198
    have F210 : Fld Z h198 b1 "com/example/gieres/gieres/model/TupleTable" "mask" "[J" (.ref am) := F166.ext E198
    have V_211 : Arv Z h198 am km .long (3 : Int32) [(.long (own_mask c0)), (.long (own_mask c1)), (.long (own_mask c2))] (.long (0 : Int64)) := V_167.ext E198
    have F212 : Fld Z h198 b1 "com/example/gieres/gieres/model/TupleTable" "width" "I" (.int wd) := F168.ext E198
    have VL213 : LAr Z h198 b69 5 f3 := LAr_ext KA159 E198
    have V_214 : Arv Z h198 b198 k198 .int (1 : Int32) [(.int (0 : Int32))] (.int (0 : Int32)) := (Arv.new A198 (by decide)).pad (pad_rep [] (.int (0 : Int32)) 1)
    show Go p e below _ (T198.setTop (mkF m 186 #[.val (.long q0), .second, .val (.int p1), .val (.long q2), .second, .val (.int p3), .val (.long q4), .second, .val (.int p5), .val (.long t0), .second, .val (.long t1), .second, .val (.long t2), .second, .val (.int e0v), .val (.int e1v), .val (.int e2v), .val (.int (1 : Int32)), .val (.int po), .val (.ref b1), .val (.ref b69), .unset, .unset] [(.ref b198)]))
    refine Go.st (fun _ => XS.astore X198.here hx rfl (hb hby at_186) rfl rfl (l' := #[.val (.long q0), .second, .val (.int p1), .val (.long q2), .second, .val (.int p3), .val (.long q4), .second, .val (.int p5), .val (.long t0), .second, .val (.long t1), .second, .val (.long t2), .second, .val (.int e0v), .val (.int e1v), .val (.int e2v), .val (.int (1 : Int32)), .val (.int po), .val (.ref b1), .val (.ref b69), .val (.ref b198), .unset]) rfl) ?_
    show Go p e below _ (T198.setTop (mkF m 188 #[.val (.long q0), .second, .val (.int p1), .val (.long q2), .second, .val (.int p3), .val (.long q4), .second, .val (.int p5), .val (.long t0), .second, .val (.long t1), .second, .val (.long t2), .second, .val (.int e0v), .val (.int e1v), .val (.int e2v), .val (.int (1 : Int32)), .val (.int po), .val (.ref b1), .val (.ref b69), .val (.ref b198), .unset] []))
    refine Go.st (fun _ => XS.iload X198.here hx rfl (hb hby at_188) rfl) ?_
    show Go p e below _ (T198.setTop (mkF m 190 #[.val (.long q0), .second, .val (.int p1), .val (.long q2), .second, .val (.int p3), .val (.long q4), .second, .val (.int p5), .val (.long t0), .second, .val (.long t1), .second, .val (.long t2), .second, .val (.int e0v), .val (.int e1v), .val (.int e2v), .val (.int (1 : Int32)), .val (.int po), .val (.ref b1), .val (.ref b69), .val (.ref b198), .unset] [(.int (1 : Int32))]))
    refine Go.st (fun _ => XS.ifNo X198.here hx rfl (hb hby at_190) rfl ((if0 _ _).trans (tlt (by decide : (0 : Int32) < (1 : Int32))).2.2.2)) ?_
    show Go p e below _ (T198.setTop (mkF m 193 #[.val (.long q0), .second, .val (.int p1), .val (.long q2), .second, .val (.int p3), .val (.long q4), .second, .val (.int p5), .val (.long t0), .second, .val (.long t1), .second, .val (.long t2), .second, .val (.int e0v), .val (.int e1v), .val (.int e2v), .val (.int (1 : Int32)), .val (.int po), .val (.ref b1), .val (.ref b69), .val (.ref b198), .unset] []))
    refine Go.st (fun _ => XS.aload X198.here hx rfl (hb hby at_193) rfl rfl) ?_
    show Go p e below _ (T198.setTop (mkF m 195 #[.val (.long q0), .second, .val (.int p1), .val (.long q2), .second, .val (.int p3), .val (.long q4), .second, .val (.int p5), .val (.long t0), .second, .val (.long t1), .second, .val (.long t2), .second, .val (.int e0v), .val (.int e1v), .val (.int e2v), .val (.int (1 : Int32)), .val (.int po), .val (.ref b1), .val (.ref b69), .val (.ref b198), .unset] [(.ref b198)]))
    refine Go.st (fun _ => XS.iconst X198.here hx rfl (hb hby at_195)) ?_
    show Go p e below _ (T198.setTop (mkF m 196 #[.val (.long q0), .second, .val (.int p1), .val (.long q2), .second, .val (.int p3), .val (.long q4), .second, .val (.int p5), .val (.long t0), .second, .val (.long t1), .second, .val (.long t2), .second, .val (.int e0v), .val (.int e1v), .val (.int e2v), .val (.int (1 : Int32)), .val (.int po), .val (.ref b1), .val (.ref b69), .val (.ref b198), .unset] [(.int (0 : Int32)), (.ref b198)]))
    refine Go.st (fun _ => XS.iload X198.here hx rfl (hb hby at_196) rfl) ?_
    show Go p e below _ (T198.setTop (mkF m 198 #[.val (.long q0), .second, .val (.int p1), .val (.long q2), .second, .val (.int p3), .val (.long q4), .second, .val (.int p5), .val (.long t0), .second, .val (.long t1), .second, .val (.long t2), .second, .val (.int e0v), .val (.int e1v), .val (.int e2v), .val (.int (1 : Int32)), .val (.int po), .val (.ref b1), .val (.ref b69), .val (.ref b198), .unset] [(.int e0v), (.int (0 : Int32)), (.ref b198)]))
    refine Go.st (fun _ => XS.iconst X198.here hx rfl (hb hby at_198)) ?_
    show Go p e below _ (T198.setTop (mkF m 199 #[.val (.long q0), .second, .val (.int p1), .val (.long q2), .second, .val (.int p3), .val (.long q4), .second, .val (.int p5), .val (.long t0), .second, .val (.long t1), .second, .val (.long t2), .second, .val (.int e0v), .val (.int e1v), .val (.int e2v), .val (.int (1 : Int32)), .val (.int po), .val (.ref b1), .val (.ref b69), .val (.ref b198), .unset] [(.int (-1 : Int32)), (.int e0v), (.int (0 : Int32)), (.ref b198)]))
    refine Go.st (fun _ => XS.ixor X198.here hx rfl (hb hby at_199) rfl) ?_
    show Go p e below _ (T198.setTop (mkF m 200 #[.val (.long q0), .second, .val (.int p1), .val (.long q2), .second, .val (.int p3), .val (.long q4), .second, .val (.int p5), .val (.long t0), .second, .val (.long t1), .second, .val (.long t2), .second, .val (.int e0v), .val (.int e1v), .val (.int e2v), .val (.int (1 : Int32)), .val (.int po), .val (.ref b1), .val (.ref b69), .val (.ref b198), .unset] [(.int (e0v ^^^ (-1 : Int32))), (.int (0 : Int32)), (.ref b198)]))
    obtain ⟨cl215, Ar215, qk215, Sz215, Nn215, Ha215, Ga215⟩ := id V_214
    have hin215 : ¬ ((0 : Int32) < 0 ∨ cl215.slots.size ≤ ((0 : Int32) : Int32).toNatClampNeg) := inb_of Sz215 ⟨by decide, by decide⟩
    obtain ⟨T215, h215, X215, e215, W215, st215⟩ := stI X198 hx hZ e198 Ar215 (j := (0 : Int32)) hin215 (g := (mkF m 200 #[.val (.long q0), .second, .val (.int p1), .val (.long q2), .second, .val (.int p3), .val (.long q4), .second, .val (.int p5), .val (.long t0), .second, .val (.long t1), .second, .val (.long t2), .second, .val (.int e0v), .val (.int e1v), .val (.int e2v), .val (.int (1 : Int32)), .val (.int po), .val (.ref b1), .val (.ref b69), .val (.ref b198), .unset] [(.int (e0v ^^^ (-1 : Int32))), (.int (0 : Int32)), (.ref b198)])) rfl rfl (hb hby at_200)
    refine Go.st st215 ?_
    have O216 : Old Z n0 h215 := O204.wr W215 gn198
    have E_217 : Exa Z h215 b1 "com/example/gieres/gieres/model/TupleTable" := E_205.wr W215
    have F218 : Fld Z h215 b1 "com/example/gieres/gieres/model/TupleTable" "word" "[I" (.ref aw) := F206.other W215 (Or.inl ne199)
    have V_219 : Arv Z h215 aw kw .int (3 : Int32) [(.int (0 : Int32)), (.int (0 : Int32)), (.int w2)] (.int (0 : Int32)) := V_207.other W215 ne200
    have F220 : Fld Z h215 b1 "com/example/gieres/gieres/model/TupleTable" "shift" "[I" (.ref as) := F208.other W215 (Or.inl ne199)
    have V_221 : Arv Z h215 as ks .int (3 : Int32) [(.int (0 : Int32)), (.int c0), (.int s2)] (.int (0 : Int32)) := V_209.other W215 ne201
    have F222 : Fld Z h215 b1 "com/example/gieres/gieres/model/TupleTable" "mask" "[J" (.ref am) := F210.other W215 (Or.inl ne199)
    have V_223 : Arv Z h215 am km .long (3 : Int32) [(.long (own_mask c0)), (.long (own_mask c1)), (.long (own_mask c2))] (.long (0 : Int64)) := V_211.other W215 ne202
    have F224 : Fld Z h215 b1 "com/example/gieres/gieres/model/TupleTable" "width" "I" (.int wd) := F212.other W215 (Or.inl ne199)
    have VL225 : LAr Z h215 b69 5 f3 := LAr_other VL213 W215 ne203
    have V_226 : Arv Z h215 b198 k198 .int (1 : Int32) [(.int (e0v ^^^ (-1 : Int32)))] (.int (0 : Int32)) := Arv.set Ar215 qk215 Sz215 Nn215 Ha215 Ga215 rfl W215 0 rfl (Nat.le_of_ble_eq_true rfl)
    have N215 := Fr.snoc X215 N159 gn198
    show Go p e below _ (T215.setTop (mkF m 201 #[.val (.long q0), .second, .val (.int p1), .val (.long q2), .second, .val (.int p3), .val (.long q4), .second, .val (.int p5), .val (.long t0), .second, .val (.long t1), .second, .val (.long t2), .second, .val (.int e0v), .val (.int e1v), .val (.int e2v), .val (.int (1 : Int32)), .val (.int po), .val (.ref b1), .val (.ref b69), .val (.ref b198), .unset] []))
    refine Go.st (fun _ => XS.iload X215.here hx rfl (hb hby at_201) rfl) ?_
    show Go p e below _ (T215.setTop (mkF m 203 #[.val (.long q0), .second, .val (.int p1), .val (.long q2), .second, .val (.int p3), .val (.long q4), .second, .val (.int p5), .val (.long t0), .second, .val (.long t1), .second, .val (.long t2), .second, .val (.int e0v), .val (.int e1v), .val (.int e2v), .val (.int (1 : Int32)), .val (.int po), .val (.ref b1), .val (.ref b69), .val (.ref b198), .unset] [(.int (1 : Int32))]))
    refine Go.st (fun _ => XS.iconst X215.here hx rfl (hb hby at_203)) ?_
    show Go p e below _ (T215.setTop (mkF m 204 #[.val (.long q0), .second, .val (.int p1), .val (.long q2), .second, .val (.int p3), .val (.long q4), .second, .val (.int p5), .val (.long t0), .second, .val (.long t1), .second, .val (.long t2), .second, .val (.int e0v), .val (.int e1v), .val (.int e2v), .val (.int (1 : Int32)), .val (.int po), .val (.ref b1), .val (.ref b69), .val (.ref b198), .unset] [(.int (1 : Int32)), (.int (1 : Int32))]))
    refine Go.st (fun _ => XS.icmpYes X215.here hx rfl (pc0 := 204) (pc' := 215) rfl (hb hby at_204) rfl (flt (by decide : ¬ ((1 : Int32) < (1 : Int32)))).2.2.2 (by decide) (by decide)) ?_
    show Go p e below _ (T215.setTop (mkF m 215 #[.val (.long q0), .second, .val (.int p1), .val (.long q2), .second, .val (.int p3), .val (.long q4), .second, .val (.int p5), .val (.long t0), .second, .val (.long t1), .second, .val (.long t2), .second, .val (.int e0v), .val (.int e1v), .val (.int e2v), .val (.int (1 : Int32)), .val (.int po), .val (.ref b1), .val (.ref b69), .val (.ref b198), .unset] []))
    refine Go.st (fun _ => XS.iload X215.here hx rfl (hb hby at_215) rfl) ?_
    show Go p e below _ (T215.setTop (mkF m 217 #[.val (.long q0), .second, .val (.int p1), .val (.long q2), .second, .val (.int p3), .val (.long q4), .second, .val (.int p5), .val (.long t0), .second, .val (.long t1), .second, .val (.long t2), .second, .val (.int e0v), .val (.int e1v), .val (.int e2v), .val (.int (1 : Int32)), .val (.int po), .val (.ref b1), .val (.ref b69), .val (.ref b198), .unset] [(.int (1 : Int32))]))
    refine Go.st (fun _ => XS.iconst X215.here hx rfl (hb hby at_217)) ?_
    show Go p e below _ (T215.setTop (mkF m 218 #[.val (.long q0), .second, .val (.int p1), .val (.long q2), .second, .val (.int p3), .val (.long q4), .second, .val (.int p5), .val (.long t0), .second, .val (.long t1), .second, .val (.long t2), .second, .val (.int e0v), .val (.int e1v), .val (.int e2v), .val (.int (1 : Int32)), .val (.int po), .val (.ref b1), .val (.ref b69), .val (.ref b198), .unset] [(.int (2 : Int32)), (.int (1 : Int32))]))
    refine Go.st (fun _ => XS.icmpYes X215.here hx rfl (pc0 := 218) (pc' := 229) rfl (hb hby at_218) rfl (flt (by decide : ¬ ((2 : Int32) < (1 : Int32)))).2.2.2 (by decide) (by decide)) ?_
    show Go p e below _ (T215.setTop (mkF m 229 #[.val (.long q0), .second, .val (.int p1), .val (.long q2), .second, .val (.int p3), .val (.long q4), .second, .val (.int p5), .val (.long t0), .second, .val (.long t1), .second, .val (.long t2), .second, .val (.int e0v), .val (.int e1v), .val (.int e2v), .val (.int (1 : Int32)), .val (.int po), .val (.ref b1), .val (.ref b69), .val (.ref b198), .unset] []))
    refine Go.st (fun _ => XS.aload X215.here hx rfl (hb hby at_229) rfl rfl) ?_
    show Go p e below _ (T215.setTop (mkF m 231 #[.val (.long q0), .second, .val (.int p1), .val (.long q2), .second, .val (.int p3), .val (.long q4), .second, .val (.int p5), .val (.long t0), .second, .val (.long t1), .second, .val (.long t2), .second, .val (.int e0v), .val (.int e1v), .val (.int e2v), .val (.int (1 : Int32)), .val (.int po), .val (.ref b1), .val (.ref b69), .val (.ref b198), .unset] [(.ref b1)]))
    refine Go.st (fun _ => XS.aload X215.here hx rfl (hb hby at_231) rfl rfl) ?_
    show Go p e below _ (T215.setTop (mkF m 233 #[.val (.long q0), .second, .val (.int p1), .val (.long q2), .second, .val (.int p3), .val (.long q4), .second, .val (.int p5), .val (.long t0), .second, .val (.long t1), .second, .val (.long t2), .second, .val (.int e0v), .val (.int e1v), .val (.int e2v), .val (.int (1 : Int32)), .val (.int po), .val (.ref b1), .val (.ref b69), .val (.ref b198), .unset] [(.ref b69), (.ref b1)]))
    refine Go.st (fun _ => XS.iload X215.here hx rfl (hb hby at_233) rfl) ?_
    show Go p e below _ (T215.setTop (mkF m 235 #[.val (.long q0), .second, .val (.int p1), .val (.long q2), .second, .val (.int p3), .val (.long q4), .second, .val (.int p5), .val (.long t0), .second, .val (.long t1), .second, .val (.long t2), .second, .val (.int e0v), .val (.int e1v), .val (.int e2v), .val (.int (1 : Int32)), .val (.int po), .val (.ref b1), .val (.ref b69), .val (.ref b198), .unset] [(.int po), (.ref b69), (.ref b1)]))
    refine Go.st (fun _ => XS.aload X215.here hx rfl (hb hby at_235) rfl rfl) ?_
    show Go p e below _ (T215.setTop (mkF m 237 #[.val (.long q0), .second, .val (.int p1), .val (.long q2), .second, .val (.int p3), .val (.long q4), .second, .val (.int p5), .val (.long t0), .second, .val (.long t1), .second, .val (.long t2), .second, .val (.int e0v), .val (.int e1v), .val (.int e2v), .val (.int (1 : Int32)), .val (.int po), .val (.ref b1), .val (.ref b69), .val (.ref b198), .unset] [(.ref b198), (.int po), (.ref b69), (.ref b1)]))
    refine goVirt X215 hx hZ (y := (⟨"com/example/gieres/gieres/model/TupleTable", "states", "([JI[I)V"⟩ : MethodName)) (z := (⟨"com/example/gieres/gieres/model/TupleTable", "states", "([JI[I)V"⟩ : MethodName)) hown (hw _ (List.mem_of_getElem? (i := 48) rfl)) (hw _ (List.mem_of_getElem? (i := 49) rfl)) (notFace_of_selects (args := #[]) (mvT hZ (hw _ (List.mem_of_getElem? (i := 51) rfl)))) (hw _ (List.mem_of_getElem? (i := 51) rfl)) (hw _ (List.mem_of_getElem? (i := 50) rfl)) (hw _ (List.mem_of_getElem? (i := 3) rfl)) (hw _ (List.mem_of_getElem? (i := 52) rfl)) (by decide) (a := b1) (argsL := [(.ref b69), (.int po), (.ref b198)]) (rest := []) e215 E_217 (rmT1 l Z a0 hw [] b1 b69 b198 aw as am kw ks km (0 : Int32) (0 : Int32) w2 (0 : Int32) c0 s2 (own_mask c0) (own_mask c1) (own_mask c2) 5 f3 k198 po wd (e0v ^^^ (-1 : Int32)) h215 n0 O216 F218 V_219 F220 V_221 F222 V_223 F224 VL225 V_226 gn198 ne199 ne203 ne200 ne201 ne202 hpb.1 (by have := hpb.2; omega) I0.1 I0.2.1 I0.1 I0.2.1 IX.1 IX.2.1 (fun q => ⟨rfl, rfl, LW.2 q⟩)) 0 (by decide) (by decide) (by decide) (by decide) (mkF m 237 #[.val (.long q0), .second, .val (.int p1), .val (.long q2), .second, .val (.int p3), .val (.long q4), .second, .val (.int p5), .val (.long t0), .second, .val (.long t1), .second, .val (.long t2), .second, .val (.int e0v), .val (.int e1v), .val (.int e2v), .val (.int (1 : Int32)), .val (.int po), .val (.ref b1), .val (.ref b69), .val (.ref b198), .unset] [(.ref b198), (.int po), (.ref b69), (.ref b1)]) rfl (by rw [hml]; rfl) (lenOf pd_4 rfl) rfl (hb hby at_237) (Nat.le_of_eq rfl) ?_
    intro v227 T227 L227 X227 hQ227
    obtain ⟨rfl, M227, K227, VI227⟩ := hQ227
    have N227 := Fr.app N215 M227
    have O228 : Old Z n0 T227.heap := O216.keep K227 (allS gn198 all0)
    have E_229 : Exa Z T227.heap b1 "com/example/gieres/gieres/model/TupleTable" := E_217.keep K227
    have F230 : Fld Z T227.heap b1 "com/example/gieres/gieres/model/TupleTable" "word" "[I" (.ref aw) := F218.keep K227 (ninS ne199 nin0)
    have V_231 : Arv Z T227.heap aw kw .int (3 : Int32) [(.int (0 : Int32)), (.int (0 : Int32)), (.int w2)] (.int (0 : Int32)) := V_219.keep K227 (ninS ne200 nin0)
    have F232 : Fld Z T227.heap b1 "com/example/gieres/gieres/model/TupleTable" "shift" "[I" (.ref as) := F220.keep K227 (ninS ne199 nin0)
    have V_233 : Arv Z T227.heap as ks .int (3 : Int32) [(.int (0 : Int32)), (.int c0), (.int s2)] (.int (0 : Int32)) := V_221.keep K227 (ninS ne201 nin0)
    have F234 : Fld Z T227.heap b1 "com/example/gieres/gieres/model/TupleTable" "mask" "[J" (.ref am) := F222.keep K227 (ninS ne199 nin0)
    have V_235 : Arv Z T227.heap am km .long (3 : Int32) [(.long (own_mask c0)), (.long (own_mask c1)), (.long (own_mask c2))] (.long (0 : Int64)) := V_223.keep K227 (ninS ne202 nin0)
    have F236 : Fld Z T227.heap b1 "com/example/gieres/gieres/model/TupleTable" "width" "I" (.int wd) := F224.keep K227 (ninS ne199 nin0)
    have VL237 : LAr Z T227.heap b69 5 f3 := LAr_keep VL225 K227 (ninS ne203 nin0)
    have VJ227 : Arv Z T227.heap b198 k198 .int (1 : Int32) [(.int e0v)] (.int (0 : Int32)) := by have q := VI227; rw [EV0] at q; exact q
    show Go p e below _ (T227.setTop (mkF m 240 #[.val (.long q0), .second, .val (.int p1), .val (.long q2), .second, .val (.int p3), .val (.long q4), .second, .val (.int p5), .val (.long t0), .second, .val (.long t1), .second, .val (.long t2), .second, .val (.int e0v), .val (.int e1v), .val (.int e2v), .val (.int (1 : Int32)), .val (.int po), .val (.ref b1), .val (.ref b69), .val (.ref b198), .unset] []))
    refine Go.st (fun _ => XS.aload X227.here hx rfl (hb hby at_240) rfl rfl) ?_
    show Go p e below _ (T227.setTop (mkF m 242 #[.val (.long q0), .second, .val (.int p1), .val (.long q2), .second, .val (.int p3), .val (.long q4), .second, .val (.int p5), .val (.long t0), .second, .val (.long t1), .second, .val (.long t2), .second, .val (.int e0v), .val (.int e1v), .val (.int e2v), .val (.int (1 : Int32)), .val (.int po), .val (.ref b1), .val (.ref b69), .val (.ref b198), .unset] [(.ref b198)]))
    obtain ⟨cl238, Ar238, qk238, Sz238, Nn238, Ha238, Ga238⟩ := id VJ227
    refine Go.st (fun _ => X227.arraylength hx Ar238.1 (State.isArrayOf_alike hZ.alike Ar238.2.1) (g := (mkF m 242 #[.val (.long q0), .second, .val (.int p1), .val (.long q2), .second, .val (.int p3), .val (.long q4), .second, .val (.int p5), .val (.long t0), .second, .val (.long t1), .second, .val (.long t2), .second, .val (.int e0v), .val (.int e1v), .val (.int e2v), .val (.int (1 : Int32)), .val (.int po), .val (.ref b1), .val (.ref b69), .val (.ref b198), .unset] [(.ref b198)])) rfl rfl (hb hby at_242) _) ?_
    rw [len_of Sz238 Nn238]
    show Go p e below _ (T227.setTop (mkF m 243 #[.val (.long q0), .second, .val (.int p1), .val (.long q2), .second, .val (.int p3), .val (.long q4), .second, .val (.int p5), .val (.long t0), .second, .val (.long t1), .second, .val (.long t2), .second, .val (.int e0v), .val (.int e1v), .val (.int e2v), .val (.int (1 : Int32)), .val (.int po), .val (.ref b1), .val (.ref b69), .val (.ref b198), .unset] [(.int (1 : Int32))]))
    refine Go.st (fun _ => XS.iload X227.here hx rfl (hb hby at_243) rfl) ?_
    show Go p e below _ (T227.setTop (mkF m 245 #[.val (.long q0), .second, .val (.int p1), .val (.long q2), .second, .val (.int p3), .val (.long q4), .second, .val (.int p5), .val (.long t0), .second, .val (.long t1), .second, .val (.long t2), .second, .val (.int e0v), .val (.int e1v), .val (.int e2v), .val (.int (1 : Int32)), .val (.int po), .val (.ref b1), .val (.ref b69), .val (.ref b198), .unset] [(.int (1 : Int32)), (.int (1 : Int32))]))
    refine Go.st (fun _ => XS.icmpNo X227.here hx rfl (hb hby at_245) rfl (teq (by decide : (1 : Int32) = (1 : Int32))).2) ?_
    show Go p e below _ (T227.setTop (mkF m 248 #[.val (.long q0), .second, .val (.int p1), .val (.long q2), .second, .val (.int p3), .val (.long q4), .second, .val (.int p5), .val (.long t0), .second, .val (.long t1), .second, .val (.long t2), .second, .val (.int e0v), .val (.int e1v), .val (.int e2v), .val (.int (1 : Int32)), .val (.int po), .val (.ref b1), .val (.ref b69), .val (.ref b198), .unset] []))
    refine Go.st (fun _ => XS.iconst X227.here hx rfl (hb hby at_248)) ?_
    show Go p e below _ (T227.setTop (mkF m 249 #[.val (.long q0), .second, .val (.int p1), .val (.long q2), .second, .val (.int p3), .val (.long q4), .second, .val (.int p5), .val (.long t0), .second, .val (.long t1), .second, .val (.long t2), .second, .val (.int e0v), .val (.int e1v), .val (.int e2v), .val (.int (1 : Int32)), .val (.int po), .val (.ref b1), .val (.ref b69), .val (.ref b198), .unset] [(.int (1 : Int32))]))
    refine Go.st (fun _ => XS.goto X227.here hx rfl (pc0 := 249) (pc' := 253) rfl (hb hby at_249) (by decide) (by decide)) ?_
    show Go p e below _ (T227.setTop (mkF m 253 #[.val (.long q0), .second, .val (.int p1), .val (.long q2), .second, .val (.int p3), .val (.long q4), .second, .val (.int p5), .val (.long t0), .second, .val (.long t1), .second, .val (.long t2), .second, .val (.int e0v), .val (.int e1v), .val (.int e2v), .val (.int (1 : Int32)), .val (.int po), .val (.ref b1), .val (.ref b69), .val (.ref b198), .unset] [(.int (1 : Int32))]))
    refine Go.st (fun _ => XS.istore X227.here hx rfl (hb hby at_253) rfl (l' := #[.val (.long q0), .second, .val (.int p1), .val (.long q2), .second, .val (.int p3), .val (.long q4), .second, .val (.int p5), .val (.long t0), .second, .val (.long t1), .second, .val (.long t2), .second, .val (.int e0v), .val (.int e1v), .val (.int e2v), .val (.int (1 : Int32)), .val (.int po), .val (.ref b1), .val (.ref b69), .val (.ref b198), .val (.int (1 : Int32))]) rfl) ?_
    show Go p e below _ (T227.setTop (mkF m 255 #[.val (.long q0), .second, .val (.int p1), .val (.long q2), .second, .val (.int p3), .val (.long q4), .second, .val (.int p5), .val (.long t0), .second, .val (.long t1), .second, .val (.long t2), .second, .val (.int e0v), .val (.int e1v), .val (.int e2v), .val (.int (1 : Int32)), .val (.int po), .val (.ref b1), .val (.ref b69), .val (.ref b198), .val (.int (1 : Int32))] []))
    refine Go.st (fun _ => XS.iload X227.here hx rfl (hb hby at_255) rfl) ?_
    show Go p e below _ (T227.setTop (mkF m 257 #[.val (.long q0), .second, .val (.int p1), .val (.long q2), .second, .val (.int p3), .val (.long q4), .second, .val (.int p5), .val (.long t0), .second, .val (.long t1), .second, .val (.long t2), .second, .val (.int e0v), .val (.int e1v), .val (.int e2v), .val (.int (1 : Int32)), .val (.int po), .val (.ref b1), .val (.ref b69), .val (.ref b198), .val (.int (1 : Int32))] [(.int (1 : Int32))]))
    refine Go.st (fun _ => XS.ifNo X227.here hx rfl (hb hby at_257) rfl ((if0 _ _).trans (tlt (by decide : (0 : Int32) < (1 : Int32))).2.2.2)) ?_
    show Go p e below _ (T227.setTop (mkF m 260 #[.val (.long q0), .second, .val (.int p1), .val (.long q2), .second, .val (.int p3), .val (.long q4), .second, .val (.int p5), .val (.long t0), .second, .val (.long t1), .second, .val (.long t2), .second, .val (.int e0v), .val (.int e1v), .val (.int e2v), .val (.int (1 : Int32)), .val (.int po), .val (.ref b1), .val (.ref b69), .val (.ref b198), .val (.int (1 : Int32))] []))
    refine Go.st (fun _ => XS.iload X227.here hx rfl (hb hby at_260) rfl) ?_
    show Go p e below _ (T227.setTop (mkF m 262 #[.val (.long q0), .second, .val (.int p1), .val (.long q2), .second, .val (.int p3), .val (.long q4), .second, .val (.int p5), .val (.long t0), .second, .val (.long t1), .second, .val (.long t2), .second, .val (.int e0v), .val (.int e1v), .val (.int e2v), .val (.int (1 : Int32)), .val (.int po), .val (.ref b1), .val (.ref b69), .val (.ref b198), .val (.int (1 : Int32))] [(.int (1 : Int32))]))
    refine Go.st (fun _ => XS.ifNo X227.here hx rfl (hb hby at_262) rfl ((if0 _ _).trans (feq (by decide : ¬ ((1 : Int32) = (0 : Int32)))).1)) ?_
    show Go p e below _ (T227.setTop (mkF m 265 #[.val (.long q0), .second, .val (.int p1), .val (.long q2), .second, .val (.int p3), .val (.long q4), .second, .val (.int p5), .val (.long t0), .second, .val (.long t1), .second, .val (.long t2), .second, .val (.int e0v), .val (.int e1v), .val (.int e2v), .val (.int (1 : Int32)), .val (.int po), .val (.ref b1), .val (.ref b69), .val (.ref b198), .val (.int (1 : Int32))] []))
    refine Go.st (fun _ => XS.aload X227.here hx rfl (hb hby at_265) rfl rfl) ?_
    show Go p e below _ (T227.setTop (mkF m 267 #[.val (.long q0), .second, .val (.int p1), .val (.long q2), .second, .val (.int p3), .val (.long q4), .second, .val (.int p5), .val (.long t0), .second, .val (.long t1), .second, .val (.long t2), .second, .val (.int e0v), .val (.int e1v), .val (.int e2v), .val (.int (1 : Int32)), .val (.int po), .val (.ref b1), .val (.ref b69), .val (.ref b198), .val (.int (1 : Int32))] [(.ref b198)]))
    refine Go.st (fun _ => XS.iconst X227.here hx rfl (hb hby at_267)) ?_
    show Go p e below _ (T227.setTop (mkF m 268 #[.val (.long q0), .second, .val (.int p1), .val (.long q2), .second, .val (.int p3), .val (.long q4), .second, .val (.int p5), .val (.long t0), .second, .val (.long t1), .second, .val (.long t2), .second, .val (.int e0v), .val (.int e1v), .val (.int e2v), .val (.int (1 : Int32)), .val (.int po), .val (.ref b1), .val (.ref b69), .val (.ref b198), .val (.int (1 : Int32))] [(.int (0 : Int32)), (.ref b198)]))
    obtain ⟨cl239, Ar239, qk239, Sz239, Nn239, Ha239, Ga239⟩ := id VJ227
    have hin239 : ¬ ((0 : Int32) < 0 ∨ cl239.slots.size ≤ ((0 : Int32) : Int32).toNatClampNeg) := inb_of Sz239 ⟨by decide, by decide⟩
    refine Go.st (fun _ => X227.iaload hx (j := (0 : Int32)) (v := (.int e0v)) Ar239.1 (State.isArrayOf_alike hZ.alike Ar239.2.1) Ar239.2.2 hin239 (Has.at Ha239 hin239 rfl) (g := (mkF m 268 #[.val (.long q0), .second, .val (.int p1), .val (.long q2), .second, .val (.int p3), .val (.long q4), .second, .val (.int p5), .val (.long t0), .second, .val (.long t1), .second, .val (.long t2), .second, .val (.int e0v), .val (.int e1v), .val (.int e2v), .val (.int (1 : Int32)), .val (.int po), .val (.ref b1), .val (.ref b69), .val (.ref b198), .val (.int (1 : Int32))] [(.int (0 : Int32)), (.ref b198)])) rfl rfl (hb hby at_268) _) ?_
    show Go p e below _ (T227.setTop (mkF m 269 #[.val (.long q0), .second, .val (.int p1), .val (.long q2), .second, .val (.int p3), .val (.long q4), .second, .val (.int p5), .val (.long t0), .second, .val (.long t1), .second, .val (.long t2), .second, .val (.int e0v), .val (.int e1v), .val (.int e2v), .val (.int (1 : Int32)), .val (.int po), .val (.ref b1), .val (.ref b69), .val (.ref b198), .val (.int (1 : Int32))] [(.int e0v)]))
    refine Go.st (fun _ => XS.iload X227.here hx rfl (hb hby at_269) rfl) ?_
    show Go p e below _ (T227.setTop (mkF m 271 #[.val (.long q0), .second, .val (.int p1), .val (.long q2), .second, .val (.int p3), .val (.long q4), .second, .val (.int p5), .val (.long t0), .second, .val (.long t1), .second, .val (.long t2), .second, .val (.int e0v), .val (.int e1v), .val (.int e2v), .val (.int (1 : Int32)), .val (.int po), .val (.ref b1), .val (.ref b69), .val (.ref b198), .val (.int (1 : Int32))] [(.int e0v), (.int e0v)]))
    refine Go.st (fun _ => XS.icmpNo X227.here hx rfl (hb hby at_271) rfl (teq (rfl : e0v = e0v)).2) ?_
    show Go p e below _ (T227.setTop (mkF m 274 #[.val (.long q0), .second, .val (.int p1), .val (.long q2), .second, .val (.int p3), .val (.long q4), .second, .val (.int p5), .val (.long t0), .second, .val (.long t1), .second, .val (.long t2), .second, .val (.int e0v), .val (.int e1v), .val (.int e2v), .val (.int (1 : Int32)), .val (.int po), .val (.ref b1), .val (.ref b69), .val (.ref b198), .val (.int (1 : Int32))] []))
    refine Go.st (fun _ => XS.iconst X227.here hx rfl (hb hby at_274)) ?_
    show Go p e below _ (T227.setTop (mkF m 275 #[.val (.long q0), .second, .val (.int p1), .val (.long q2), .second, .val (.int p3), .val (.long q4), .second, .val (.int p5), .val (.long t0), .second, .val (.long t1), .second, .val (.long t2), .second, .val (.int e0v), .val (.int e1v), .val (.int e2v), .val (.int (1 : Int32)), .val (.int po), .val (.ref b1), .val (.ref b69), .val (.ref b198), .val (.int (1 : Int32))] [(.int (1 : Int32))]))
    refine Go.st (fun _ => XS.goto X227.here hx rfl (pc0 := 275) (pc' := 279) rfl (hb hby at_275) (by decide) (by decide)) ?_
    show Go p e below _ (T227.setTop (mkF m 279 #[.val (.long q0), .second, .val (.int p1), .val (.long q2), .second, .val (.int p3), .val (.long q4), .second, .val (.int p5), .val (.long t0), .second, .val (.long t1), .second, .val (.long t2), .second, .val (.int e0v), .val (.int e1v), .val (.int e2v), .val (.int (1 : Int32)), .val (.int po), .val (.ref b1), .val (.ref b69), .val (.ref b198), .val (.int (1 : Int32))] [(.int (1 : Int32))]))
    refine Go.st (fun _ => XS.istore X227.here hx rfl (hb hby at_279) rfl (l' := #[.val (.long q0), .second, .val (.int p1), .val (.long q2), .second, .val (.int p3), .val (.long q4), .second, .val (.int p5), .val (.long t0), .second, .val (.long t1), .second, .val (.long t2), .second, .val (.int e0v), .val (.int e1v), .val (.int e2v), .val (.int (1 : Int32)), .val (.int po), .val (.ref b1), .val (.ref b69), .val (.ref b198), .val (.int (1 : Int32))]) rfl) ?_
    show Go p e below _ (T227.setTop (mkF m 281 #[.val (.long q0), .second, .val (.int p1), .val (.long q2), .second, .val (.int p3), .val (.long q4), .second, .val (.int p5), .val (.long t0), .second, .val (.long t1), .second, .val (.long t2), .second, .val (.int e0v), .val (.int e1v), .val (.int e2v), .val (.int (1 : Int32)), .val (.int po), .val (.ref b1), .val (.ref b69), .val (.ref b198), .val (.int (1 : Int32))] []))
    refine Go.st (fun _ => XS.iload X227.here hx rfl (hb hby at_281) rfl) ?_
    show Go p e below _ (T227.setTop (mkF m 283 #[.val (.long q0), .second, .val (.int p1), .val (.long q2), .second, .val (.int p3), .val (.long q4), .second, .val (.int p5), .val (.long t0), .second, .val (.long t1), .second, .val (.long t2), .second, .val (.int e0v), .val (.int e1v), .val (.int e2v), .val (.int (1 : Int32)), .val (.int po), .val (.ref b1), .val (.ref b69), .val (.ref b198), .val (.int (1 : Int32))] [(.int (1 : Int32))]))
    refine Go.st (fun _ => XS.iconst X227.here hx rfl (hb hby at_283)) ?_
    show Go p e below _ (T227.setTop (mkF m 284 #[.val (.long q0), .second, .val (.int p1), .val (.long q2), .second, .val (.int p3), .val (.long q4), .second, .val (.int p5), .val (.long t0), .second, .val (.long t1), .second, .val (.long t2), .second, .val (.int e0v), .val (.int e1v), .val (.int e2v), .val (.int (1 : Int32)), .val (.int po), .val (.ref b1), .val (.ref b69), .val (.ref b198), .val (.int (1 : Int32))] [(.int (1 : Int32)), (.int (1 : Int32))]))
    refine Go.st (fun _ => XS.icmpYes X227.here hx rfl (pc0 := 284) (pc' := 308) rfl (hb hby at_284) rfl (flt (by decide : ¬ ((1 : Int32) < (1 : Int32)))).2.2.2 (by decide) (by decide)) ?_
    show Go p e below _ (T227.setTop (mkF m 308 #[.val (.long q0), .second, .val (.int p1), .val (.long q2), .second, .val (.int p3), .val (.long q4), .second, .val (.int p5), .val (.long t0), .second, .val (.long t1), .second, .val (.long t2), .second, .val (.int e0v), .val (.int e1v), .val (.int e2v), .val (.int (1 : Int32)), .val (.int po), .val (.ref b1), .val (.ref b69), .val (.ref b198), .val (.int (1 : Int32))] []))
    refine Go.st (fun _ => XS.iload X227.here hx rfl (hb hby at_308) rfl) ?_
    show Go p e below _ (T227.setTop (mkF m 310 #[.val (.long q0), .second, .val (.int p1), .val (.long q2), .second, .val (.int p3), .val (.long q4), .second, .val (.int p5), .val (.long t0), .second, .val (.long t1), .second, .val (.long t2), .second, .val (.int e0v), .val (.int e1v), .val (.int e2v), .val (.int (1 : Int32)), .val (.int po), .val (.ref b1), .val (.ref b69), .val (.ref b198), .val (.int (1 : Int32))] [(.int (1 : Int32))]))
    refine Go.st (fun _ => XS.iconst X227.here hx rfl (hb hby at_310)) ?_
    show Go p e below _ (T227.setTop (mkF m 311 #[.val (.long q0), .second, .val (.int p1), .val (.long q2), .second, .val (.int p3), .val (.long q4), .second, .val (.int p5), .val (.long t0), .second, .val (.long t1), .second, .val (.long t2), .second, .val (.int e0v), .val (.int e1v), .val (.int e2v), .val (.int (1 : Int32)), .val (.int po), .val (.ref b1), .val (.ref b69), .val (.ref b198), .val (.int (1 : Int32))] [(.int (2 : Int32)), (.int (1 : Int32))]))
    refine Go.st (fun _ => XS.icmpYes X227.here hx rfl (pc0 := 311) (pc' := 335) rfl (hb hby at_311) rfl (flt (by decide : ¬ ((2 : Int32) < (1 : Int32)))).2.2.2 (by decide) (by decide)) ?_
    show Go p e below _ (T227.setTop (mkF m 335 #[.val (.long q0), .second, .val (.int p1), .val (.long q2), .second, .val (.int p3), .val (.long q4), .second, .val (.int p5), .val (.long t0), .second, .val (.long t1), .second, .val (.long t2), .second, .val (.int e0v), .val (.int e1v), .val (.int e2v), .val (.int (1 : Int32)), .val (.int po), .val (.ref b1), .val (.ref b69), .val (.ref b198), .val (.int (1 : Int32))] []))
    refine Go.st (fun _ => XS.iload X227.here hx rfl (hb hby at_335) rfl) ?_
    show Go p e below _ (T227.setTop (mkF m 337 #[.val (.long q0), .second, .val (.int p1), .val (.long q2), .second, .val (.int p3), .val (.long q4), .second, .val (.int p5), .val (.long t0), .second, .val (.long t1), .second, .val (.long t2), .second, .val (.int e0v), .val (.int e1v), .val (.int e2v), .val (.int (1 : Int32)), .val (.int po), .val (.ref b1), .val (.ref b69), .val (.ref b198), .val (.int (1 : Int32))] [(.int (1 : Int32))]))
    exact goRetN X227 hx hlk hret (t := .boolean) (by simp) (w := (1 : Int32)) (by decide) rfl (hb hby at_337) (by decide) (by decide) ⟨rfl, N227⟩
  · rw [ql]
    show Go p e below _ (T159.setTop (mkF m 182 #[.val (.long q0), .second, .val (.int p1), .val (.long q2), .second, .val (.int p3), .val (.long q4), .second, .val (.int p5), .val (.long t0), .second, .val (.long t1), .second, .val (.long t2), .second, .val (.int e0v), .val (.int e1v), .val (.int e2v), .val (.int (2 : Int32)), .val (.int po), .val (.ref b1), .val (.ref b69), .unset, .unset] []))
    refine Go.st (fun _ => XS.iload X159.here hx rfl (hb hby at_182) rfl) ?_
    show Go p e below _ (T159.setTop (mkF m 184 #[.val (.long q0), .second, .val (.int p1), .val (.long q2), .second, .val (.int p3), .val (.long q4), .second, .val (.int p5), .val (.long t0), .second, .val (.long t1), .second, .val (.long t2), .second, .val (.int e0v), .val (.int e1v), .val (.int e2v), .val (.int (2 : Int32)), .val (.int po), .val (.ref b1), .val (.ref b69), .unset, .unset] [(.int (2 : Int32))]))
    obtain ⟨T240, h240, k240, X240, e240, E240, A240, st240⟩ := newP X159 hx hZ (hw _ (List.mem_of_getElem? (i := 17) rfl)) rfl (g := (mkF m 184 #[.val (.long q0), .second, .val (.int p1), .val (.long q2), .second, .val (.int p3), .val (.long q4), .second, .val (.int p5), .val (.long t0), .second, .val (.long t1), .second, .val (.long t2), .second, .val (.int e0v), .val (.int e1v), .val (.int e2v), .val (.int (2 : Int32)), .val (.int po), .val (.ref b1), .val (.ref b69), .unset, .unset] [(.int (2 : Int32))])) rfl (hb hby at_184) rfl (by decide) (cap := 2) (by decide) (by decide) (by decide) (by decide)
    obtain ⟨b240, g240⟩ : ∃ z, z = T159.heap.size := ⟨_, rfl⟩
    rw [← g240] at A240 st240
    refine Go.st st240 ?_
    have gn240 : n0 ≤ b240 := oldGe O160 g240
    have ne241 : b1 ≠ b240 := Nat.ne_of_lt (Nat.lt_of_lt_of_le E_161.lt (Nat.le_of_eq g240.symm))
    have ne242 : aw ≠ b240 := Nat.ne_of_lt (Nat.lt_of_lt_of_le V_163.lt (Nat.le_of_eq g240.symm))
    have ne243 : as ≠ b240 := Nat.ne_of_lt (Nat.lt_of_lt_of_le V_165.lt (Nat.le_of_eq g240.symm))
    have ne244 : am ≠ b240 := Nat.ne_of_lt (Nat.lt_of_lt_of_le V_167.lt (Nat.le_of_eq g240.symm))
    have ne245 : b69 ≠ b240 := Nat.ne_of_lt (Nat.lt_of_lt_of_le (LAr_lt KA159) (Nat.le_of_eq g240.symm))
    have O246 : Old Z n0 h240 := O160.ext E240
    have E_247 : Exa Z h240 b1 "com/example/gieres/gieres/model/TupleTable" := E_161.ext E240
    have F248 : Fld Z h240 b1 "com/example/gieres/gieres/model/TupleTable" "word" "[I" (.ref aw) := F162.ext E240
    have V_249 : Arv Z h240 aw kw .int (3 : Int32) [(.int (0 : Int32)), (.int (0 : Int32)), (.int w2)] (.int (0 : Int32)) := V_163.ext E240
    have F250 : Fld Z h240 b1 "com/example/gieres/gieres/model/TupleTable" "shift" "[I" (.ref as) := F164.ext E240
    have V_251 : Arv Z h240 as ks .int (3 : Int32) [(.int (0 : Int32)), (.int c0), (.int s2)] (.int (0 : Int32)) := V_165.ext E240
    have F252 : Fld Z h240 b1 "com/example/gieres/gieres/model/TupleTable" "mask" "[J" (.ref am) := F166.ext E240
    have V_253 : Arv Z h240 am km .long (3 : Int32) [(.long (own_mask c0)), (.long (own_mask c1)), (.long (own_mask c2))] (.long (0 : Int64)) := V_167.ext E240
    have F254 : Fld Z h240 b1 "com/example/gieres/gieres/model/TupleTable" "width" "I" (.int wd) := F168.ext E240
    have VL255 : LAr Z h240 b69 5 f3 := LAr_ext KA159 E240
    have V_256 : Arv Z h240 b240 k240 .int (2 : Int32) [(.int (0 : Int32)), (.int (0 : Int32))] (.int (0 : Int32)) := (Arv.new A240 (by decide)).pad (pad_rep [] (.int (0 : Int32)) 2)
    show Go p e below _ (T240.setTop (mkF m 186 #[.val (.long q0), .second, .val (.int p1), .val (.long q2), .second, .val (.int p3), .val (.long q4), .second, .val (.int p5), .val (.long t0), .second, .val (.long t1), .second, .val (.long t2), .second, .val (.int e0v), .val (.int e1v), .val (.int e2v), .val (.int (2 : Int32)), .val (.int po), .val (.ref b1), .val (.ref b69), .unset, .unset] [(.ref b240)]))
    refine Go.st (fun _ => XS.astore X240.here hx rfl (hb hby at_186) rfl rfl (l' := #[.val (.long q0), .second, .val (.int p1), .val (.long q2), .second, .val (.int p3), .val (.long q4), .second, .val (.int p5), .val (.long t0), .second, .val (.long t1), .second, .val (.long t2), .second, .val (.int e0v), .val (.int e1v), .val (.int e2v), .val (.int (2 : Int32)), .val (.int po), .val (.ref b1), .val (.ref b69), .val (.ref b240), .unset]) rfl) ?_
    show Go p e below _ (T240.setTop (mkF m 188 #[.val (.long q0), .second, .val (.int p1), .val (.long q2), .second, .val (.int p3), .val (.long q4), .second, .val (.int p5), .val (.long t0), .second, .val (.long t1), .second, .val (.long t2), .second, .val (.int e0v), .val (.int e1v), .val (.int e2v), .val (.int (2 : Int32)), .val (.int po), .val (.ref b1), .val (.ref b69), .val (.ref b240), .unset] []))
    refine Go.st (fun _ => XS.iload X240.here hx rfl (hb hby at_188) rfl) ?_
    show Go p e below _ (T240.setTop (mkF m 190 #[.val (.long q0), .second, .val (.int p1), .val (.long q2), .second, .val (.int p3), .val (.long q4), .second, .val (.int p5), .val (.long t0), .second, .val (.long t1), .second, .val (.long t2), .second, .val (.int e0v), .val (.int e1v), .val (.int e2v), .val (.int (2 : Int32)), .val (.int po), .val (.ref b1), .val (.ref b69), .val (.ref b240), .unset] [(.int (2 : Int32))]))
    refine Go.st (fun _ => XS.ifNo X240.here hx rfl (hb hby at_190) rfl ((if0 _ _).trans (tlt (by decide : (0 : Int32) < (2 : Int32))).2.2.2)) ?_
    show Go p e below _ (T240.setTop (mkF m 193 #[.val (.long q0), .second, .val (.int p1), .val (.long q2), .second, .val (.int p3), .val (.long q4), .second, .val (.int p5), .val (.long t0), .second, .val (.long t1), .second, .val (.long t2), .second, .val (.int e0v), .val (.int e1v), .val (.int e2v), .val (.int (2 : Int32)), .val (.int po), .val (.ref b1), .val (.ref b69), .val (.ref b240), .unset] []))
    refine Go.st (fun _ => XS.aload X240.here hx rfl (hb hby at_193) rfl rfl) ?_
    show Go p e below _ (T240.setTop (mkF m 195 #[.val (.long q0), .second, .val (.int p1), .val (.long q2), .second, .val (.int p3), .val (.long q4), .second, .val (.int p5), .val (.long t0), .second, .val (.long t1), .second, .val (.long t2), .second, .val (.int e0v), .val (.int e1v), .val (.int e2v), .val (.int (2 : Int32)), .val (.int po), .val (.ref b1), .val (.ref b69), .val (.ref b240), .unset] [(.ref b240)]))
    refine Go.st (fun _ => XS.iconst X240.here hx rfl (hb hby at_195)) ?_
    show Go p e below _ (T240.setTop (mkF m 196 #[.val (.long q0), .second, .val (.int p1), .val (.long q2), .second, .val (.int p3), .val (.long q4), .second, .val (.int p5), .val (.long t0), .second, .val (.long t1), .second, .val (.long t2), .second, .val (.int e0v), .val (.int e1v), .val (.int e2v), .val (.int (2 : Int32)), .val (.int po), .val (.ref b1), .val (.ref b69), .val (.ref b240), .unset] [(.int (0 : Int32)), (.ref b240)]))
    refine Go.st (fun _ => XS.iload X240.here hx rfl (hb hby at_196) rfl) ?_
    show Go p e below _ (T240.setTop (mkF m 198 #[.val (.long q0), .second, .val (.int p1), .val (.long q2), .second, .val (.int p3), .val (.long q4), .second, .val (.int p5), .val (.long t0), .second, .val (.long t1), .second, .val (.long t2), .second, .val (.int e0v), .val (.int e1v), .val (.int e2v), .val (.int (2 : Int32)), .val (.int po), .val (.ref b1), .val (.ref b69), .val (.ref b240), .unset] [(.int e0v), (.int (0 : Int32)), (.ref b240)]))
    refine Go.st (fun _ => XS.iconst X240.here hx rfl (hb hby at_198)) ?_
    show Go p e below _ (T240.setTop (mkF m 199 #[.val (.long q0), .second, .val (.int p1), .val (.long q2), .second, .val (.int p3), .val (.long q4), .second, .val (.int p5), .val (.long t0), .second, .val (.long t1), .second, .val (.long t2), .second, .val (.int e0v), .val (.int e1v), .val (.int e2v), .val (.int (2 : Int32)), .val (.int po), .val (.ref b1), .val (.ref b69), .val (.ref b240), .unset] [(.int (-1 : Int32)), (.int e0v), (.int (0 : Int32)), (.ref b240)]))
    refine Go.st (fun _ => XS.ixor X240.here hx rfl (hb hby at_199) rfl) ?_
    show Go p e below _ (T240.setTop (mkF m 200 #[.val (.long q0), .second, .val (.int p1), .val (.long q2), .second, .val (.int p3), .val (.long q4), .second, .val (.int p5), .val (.long t0), .second, .val (.long t1), .second, .val (.long t2), .second, .val (.int e0v), .val (.int e1v), .val (.int e2v), .val (.int (2 : Int32)), .val (.int po), .val (.ref b1), .val (.ref b69), .val (.ref b240), .unset] [(.int (e0v ^^^ (-1 : Int32))), (.int (0 : Int32)), (.ref b240)]))
    obtain ⟨cl257, Ar257, qk257, Sz257, Nn257, Ha257, Ga257⟩ := id V_256
    have hin257 : ¬ ((0 : Int32) < 0 ∨ cl257.slots.size ≤ ((0 : Int32) : Int32).toNatClampNeg) := inb_of Sz257 ⟨by decide, by decide⟩
    obtain ⟨T257, h257, X257, e257, W257, st257⟩ := stI X240 hx hZ e240 Ar257 (j := (0 : Int32)) hin257 (g := (mkF m 200 #[.val (.long q0), .second, .val (.int p1), .val (.long q2), .second, .val (.int p3), .val (.long q4), .second, .val (.int p5), .val (.long t0), .second, .val (.long t1), .second, .val (.long t2), .second, .val (.int e0v), .val (.int e1v), .val (.int e2v), .val (.int (2 : Int32)), .val (.int po), .val (.ref b1), .val (.ref b69), .val (.ref b240), .unset] [(.int (e0v ^^^ (-1 : Int32))), (.int (0 : Int32)), (.ref b240)])) rfl rfl (hb hby at_200)
    refine Go.st st257 ?_
    have O258 : Old Z n0 h257 := O246.wr W257 gn240
    have E_259 : Exa Z h257 b1 "com/example/gieres/gieres/model/TupleTable" := E_247.wr W257
    have F260 : Fld Z h257 b1 "com/example/gieres/gieres/model/TupleTable" "word" "[I" (.ref aw) := F248.other W257 (Or.inl ne241)
    have V_261 : Arv Z h257 aw kw .int (3 : Int32) [(.int (0 : Int32)), (.int (0 : Int32)), (.int w2)] (.int (0 : Int32)) := V_249.other W257 ne242
    have F262 : Fld Z h257 b1 "com/example/gieres/gieres/model/TupleTable" "shift" "[I" (.ref as) := F250.other W257 (Or.inl ne241)
    have V_263 : Arv Z h257 as ks .int (3 : Int32) [(.int (0 : Int32)), (.int c0), (.int s2)] (.int (0 : Int32)) := V_251.other W257 ne243
    have F264 : Fld Z h257 b1 "com/example/gieres/gieres/model/TupleTable" "mask" "[J" (.ref am) := F252.other W257 (Or.inl ne241)
    have V_265 : Arv Z h257 am km .long (3 : Int32) [(.long (own_mask c0)), (.long (own_mask c1)), (.long (own_mask c2))] (.long (0 : Int64)) := V_253.other W257 ne244
    have F266 : Fld Z h257 b1 "com/example/gieres/gieres/model/TupleTable" "width" "I" (.int wd) := F254.other W257 (Or.inl ne241)
    have VL267 : LAr Z h257 b69 5 f3 := LAr_other VL255 W257 ne245
    have V_268 : Arv Z h257 b240 k240 .int (2 : Int32) [(.int (e0v ^^^ (-1 : Int32))), (.int (0 : Int32))] (.int (0 : Int32)) := Arv.set Ar257 qk257 Sz257 Nn257 Ha257 Ga257 rfl W257 0 rfl (Nat.le_of_ble_eq_true rfl)
    have N257 := Fr.snoc X257 N159 gn240
    show Go p e below _ (T257.setTop (mkF m 201 #[.val (.long q0), .second, .val (.int p1), .val (.long q2), .second, .val (.int p3), .val (.long q4), .second, .val (.int p5), .val (.long t0), .second, .val (.long t1), .second, .val (.long t2), .second, .val (.int e0v), .val (.int e1v), .val (.int e2v), .val (.int (2 : Int32)), .val (.int po), .val (.ref b1), .val (.ref b69), .val (.ref b240), .unset] []))
    refine Go.st (fun _ => XS.iload X257.here hx rfl (hb hby at_201) rfl) ?_
    show Go p e below _ (T257.setTop (mkF m 203 #[.val (.long q0), .second, .val (.int p1), .val (.long q2), .second, .val (.int p3), .val (.long q4), .second, .val (.int p5), .val (.long t0), .second, .val (.long t1), .second, .val (.long t2), .second, .val (.int e0v), .val (.int e1v), .val (.int e2v), .val (.int (2 : Int32)), .val (.int po), .val (.ref b1), .val (.ref b69), .val (.ref b240), .unset] [(.int (2 : Int32))]))
    refine Go.st (fun _ => XS.iconst X257.here hx rfl (hb hby at_203)) ?_
    show Go p e below _ (T257.setTop (mkF m 204 #[.val (.long q0), .second, .val (.int p1), .val (.long q2), .second, .val (.int p3), .val (.long q4), .second, .val (.int p5), .val (.long t0), .second, .val (.long t1), .second, .val (.long t2), .second, .val (.int e0v), .val (.int e1v), .val (.int e2v), .val (.int (2 : Int32)), .val (.int po), .val (.ref b1), .val (.ref b69), .val (.ref b240), .unset] [(.int (1 : Int32)), (.int (2 : Int32))]))
    refine Go.st (fun _ => XS.icmpNo X257.here hx rfl (hb hby at_204) rfl (tlt (by decide : (1 : Int32) < (2 : Int32))).2.2.2) ?_
    show Go p e below _ (T257.setTop (mkF m 207 #[.val (.long q0), .second, .val (.int p1), .val (.long q2), .second, .val (.int p3), .val (.long q4), .second, .val (.int p5), .val (.long t0), .second, .val (.long t1), .second, .val (.long t2), .second, .val (.int e0v), .val (.int e1v), .val (.int e2v), .val (.int (2 : Int32)), .val (.int po), .val (.ref b1), .val (.ref b69), .val (.ref b240), .unset] []))
    refine Go.st (fun _ => XS.aload X257.here hx rfl (hb hby at_207) rfl rfl) ?_
    show Go p e below _ (T257.setTop (mkF m 209 #[.val (.long q0), .second, .val (.int p1), .val (.long q2), .second, .val (.int p3), .val (.long q4), .second, .val (.int p5), .val (.long t0), .second, .val (.long t1), .second, .val (.long t2), .second, .val (.int e0v), .val (.int e1v), .val (.int e2v), .val (.int (2 : Int32)), .val (.int po), .val (.ref b1), .val (.ref b69), .val (.ref b240), .unset] [(.ref b240)]))
    refine Go.st (fun _ => XS.iconst X257.here hx rfl (hb hby at_209)) ?_
    show Go p e below _ (T257.setTop (mkF m 210 #[.val (.long q0), .second, .val (.int p1), .val (.long q2), .second, .val (.int p3), .val (.long q4), .second, .val (.int p5), .val (.long t0), .second, .val (.long t1), .second, .val (.long t2), .second, .val (.int e0v), .val (.int e1v), .val (.int e2v), .val (.int (2 : Int32)), .val (.int po), .val (.ref b1), .val (.ref b69), .val (.ref b240), .unset] [(.int (1 : Int32)), (.ref b240)]))
    refine Go.st (fun _ => XS.iload X257.here hx rfl (hb hby at_210) rfl) ?_
    show Go p e below _ (T257.setTop (mkF m 212 #[.val (.long q0), .second, .val (.int p1), .val (.long q2), .second, .val (.int p3), .val (.long q4), .second, .val (.int p5), .val (.long t0), .second, .val (.long t1), .second, .val (.long t2), .second, .val (.int e0v), .val (.int e1v), .val (.int e2v), .val (.int (2 : Int32)), .val (.int po), .val (.ref b1), .val (.ref b69), .val (.ref b240), .unset] [(.int e1v), (.int (1 : Int32)), (.ref b240)]))
    refine Go.st (fun _ => XS.iconst X257.here hx rfl (hb hby at_212)) ?_
    show Go p e below _ (T257.setTop (mkF m 213 #[.val (.long q0), .second, .val (.int p1), .val (.long q2), .second, .val (.int p3), .val (.long q4), .second, .val (.int p5), .val (.long t0), .second, .val (.long t1), .second, .val (.long t2), .second, .val (.int e0v), .val (.int e1v), .val (.int e2v), .val (.int (2 : Int32)), .val (.int po), .val (.ref b1), .val (.ref b69), .val (.ref b240), .unset] [(.int (-1 : Int32)), (.int e1v), (.int (1 : Int32)), (.ref b240)]))
    refine Go.st (fun _ => XS.ixor X257.here hx rfl (hb hby at_213) rfl) ?_
    show Go p e below _ (T257.setTop (mkF m 214 #[.val (.long q0), .second, .val (.int p1), .val (.long q2), .second, .val (.int p3), .val (.long q4), .second, .val (.int p5), .val (.long t0), .second, .val (.long t1), .second, .val (.long t2), .second, .val (.int e0v), .val (.int e1v), .val (.int e2v), .val (.int (2 : Int32)), .val (.int po), .val (.ref b1), .val (.ref b69), .val (.ref b240), .unset] [(.int (e1v ^^^ (-1 : Int32))), (.int (1 : Int32)), (.ref b240)]))
    obtain ⟨cl269, Ar269, qk269, Sz269, Nn269, Ha269, Ga269⟩ := id V_268
    have hin269 : ¬ ((1 : Int32) < 0 ∨ cl269.slots.size ≤ ((1 : Int32) : Int32).toNatClampNeg) := inb_of Sz269 ⟨by decide, by decide⟩
    obtain ⟨T269, h269, X269, e269, W269, st269⟩ := stI X257 hx hZ e257 Ar269 (j := (1 : Int32)) hin269 (g := (mkF m 214 #[.val (.long q0), .second, .val (.int p1), .val (.long q2), .second, .val (.int p3), .val (.long q4), .second, .val (.int p5), .val (.long t0), .second, .val (.long t1), .second, .val (.long t2), .second, .val (.int e0v), .val (.int e1v), .val (.int e2v), .val (.int (2 : Int32)), .val (.int po), .val (.ref b1), .val (.ref b69), .val (.ref b240), .unset] [(.int (e1v ^^^ (-1 : Int32))), (.int (1 : Int32)), (.ref b240)])) rfl rfl (hb hby at_214)
    refine Go.st st269 ?_
    have O270 : Old Z n0 h269 := O258.wr W269 gn240
    have E_271 : Exa Z h269 b1 "com/example/gieres/gieres/model/TupleTable" := E_259.wr W269
    have F272 : Fld Z h269 b1 "com/example/gieres/gieres/model/TupleTable" "word" "[I" (.ref aw) := F260.other W269 (Or.inl ne241)
    have V_273 : Arv Z h269 aw kw .int (3 : Int32) [(.int (0 : Int32)), (.int (0 : Int32)), (.int w2)] (.int (0 : Int32)) := V_261.other W269 ne242
    have F274 : Fld Z h269 b1 "com/example/gieres/gieres/model/TupleTable" "shift" "[I" (.ref as) := F262.other W269 (Or.inl ne241)
    have V_275 : Arv Z h269 as ks .int (3 : Int32) [(.int (0 : Int32)), (.int c0), (.int s2)] (.int (0 : Int32)) := V_263.other W269 ne243
    have F276 : Fld Z h269 b1 "com/example/gieres/gieres/model/TupleTable" "mask" "[J" (.ref am) := F264.other W269 (Or.inl ne241)
    have V_277 : Arv Z h269 am km .long (3 : Int32) [(.long (own_mask c0)), (.long (own_mask c1)), (.long (own_mask c2))] (.long (0 : Int64)) := V_265.other W269 ne244
    have F278 : Fld Z h269 b1 "com/example/gieres/gieres/model/TupleTable" "width" "I" (.int wd) := F266.other W269 (Or.inl ne241)
    have VL279 : LAr Z h269 b69 5 f3 := LAr_other VL267 W269 ne245
    have V_280 : Arv Z h269 b240 k240 .int (2 : Int32) [(.int (e0v ^^^ (-1 : Int32))), (.int (e1v ^^^ (-1 : Int32)))] (.int (0 : Int32)) := Arv.set Ar269 qk269 Sz269 Nn269 Ha269 Ga269 rfl W269 1 rfl (Nat.le_of_ble_eq_true rfl)
    have N269 := Fr.snoc X269 N257 gn240
    show Go p e below _ (T269.setTop (mkF m 215 #[.val (.long q0), .second, .val (.int p1), .val (.long q2), .second, .val (.int p3), .val (.long q4), .second, .val (.int p5), .val (.long t0), .second, .val (.long t1), .second, .val (.long t2), .second, .val (.int e0v), .val (.int e1v), .val (.int e2v), .val (.int (2 : Int32)), .val (.int po), .val (.ref b1), .val (.ref b69), .val (.ref b240), .unset] []))
    refine Go.st (fun _ => XS.iload X269.here hx rfl (hb hby at_215) rfl) ?_
    show Go p e below _ (T269.setTop (mkF m 217 #[.val (.long q0), .second, .val (.int p1), .val (.long q2), .second, .val (.int p3), .val (.long q4), .second, .val (.int p5), .val (.long t0), .second, .val (.long t1), .second, .val (.long t2), .second, .val (.int e0v), .val (.int e1v), .val (.int e2v), .val (.int (2 : Int32)), .val (.int po), .val (.ref b1), .val (.ref b69), .val (.ref b240), .unset] [(.int (2 : Int32))]))
    refine Go.st (fun _ => XS.iconst X269.here hx rfl (hb hby at_217)) ?_
    show Go p e below _ (T269.setTop (mkF m 218 #[.val (.long q0), .second, .val (.int p1), .val (.long q2), .second, .val (.int p3), .val (.long q4), .second, .val (.int p5), .val (.long t0), .second, .val (.long t1), .second, .val (.long t2), .second, .val (.int e0v), .val (.int e1v), .val (.int e2v), .val (.int (2 : Int32)), .val (.int po), .val (.ref b1), .val (.ref b69), .val (.ref b240), .unset] [(.int (2 : Int32)), (.int (2 : Int32))]))
    refine Go.st (fun _ => XS.icmpYes X269.here hx rfl (pc0 := 218) (pc' := 229) rfl (hb hby at_218) rfl (flt (by decide : ¬ ((2 : Int32) < (2 : Int32)))).2.2.2 (by decide) (by decide)) ?_
    show Go p e below _ (T269.setTop (mkF m 229 #[.val (.long q0), .second, .val (.int p1), .val (.long q2), .second, .val (.int p3), .val (.long q4), .second, .val (.int p5), .val (.long t0), .second, .val (.long t1), .second, .val (.long t2), .second, .val (.int e0v), .val (.int e1v), .val (.int e2v), .val (.int (2 : Int32)), .val (.int po), .val (.ref b1), .val (.ref b69), .val (.ref b240), .unset] []))
    refine Go.st (fun _ => XS.aload X269.here hx rfl (hb hby at_229) rfl rfl) ?_
    show Go p e below _ (T269.setTop (mkF m 231 #[.val (.long q0), .second, .val (.int p1), .val (.long q2), .second, .val (.int p3), .val (.long q4), .second, .val (.int p5), .val (.long t0), .second, .val (.long t1), .second, .val (.long t2), .second, .val (.int e0v), .val (.int e1v), .val (.int e2v), .val (.int (2 : Int32)), .val (.int po), .val (.ref b1), .val (.ref b69), .val (.ref b240), .unset] [(.ref b1)]))
    refine Go.st (fun _ => XS.aload X269.here hx rfl (hb hby at_231) rfl rfl) ?_
    show Go p e below _ (T269.setTop (mkF m 233 #[.val (.long q0), .second, .val (.int p1), .val (.long q2), .second, .val (.int p3), .val (.long q4), .second, .val (.int p5), .val (.long t0), .second, .val (.long t1), .second, .val (.long t2), .second, .val (.int e0v), .val (.int e1v), .val (.int e2v), .val (.int (2 : Int32)), .val (.int po), .val (.ref b1), .val (.ref b69), .val (.ref b240), .unset] [(.ref b69), (.ref b1)]))
    refine Go.st (fun _ => XS.iload X269.here hx rfl (hb hby at_233) rfl) ?_
    show Go p e below _ (T269.setTop (mkF m 235 #[.val (.long q0), .second, .val (.int p1), .val (.long q2), .second, .val (.int p3), .val (.long q4), .second, .val (.int p5), .val (.long t0), .second, .val (.long t1), .second, .val (.long t2), .second, .val (.int e0v), .val (.int e1v), .val (.int e2v), .val (.int (2 : Int32)), .val (.int po), .val (.ref b1), .val (.ref b69), .val (.ref b240), .unset] [(.int po), (.ref b69), (.ref b1)]))
    refine Go.st (fun _ => XS.aload X269.here hx rfl (hb hby at_235) rfl rfl) ?_
    show Go p e below _ (T269.setTop (mkF m 237 #[.val (.long q0), .second, .val (.int p1), .val (.long q2), .second, .val (.int p3), .val (.long q4), .second, .val (.int p5), .val (.long t0), .second, .val (.long t1), .second, .val (.long t2), .second, .val (.int e0v), .val (.int e1v), .val (.int e2v), .val (.int (2 : Int32)), .val (.int po), .val (.ref b1), .val (.ref b69), .val (.ref b240), .unset] [(.ref b240), (.int po), (.ref b69), (.ref b1)]))
    refine goVirt X269 hx hZ (y := (⟨"com/example/gieres/gieres/model/TupleTable", "states", "([JI[I)V"⟩ : MethodName)) (z := (⟨"com/example/gieres/gieres/model/TupleTable", "states", "([JI[I)V"⟩ : MethodName)) hown (hw _ (List.mem_of_getElem? (i := 48) rfl)) (hw _ (List.mem_of_getElem? (i := 49) rfl)) (notFace_of_selects (args := #[]) (mvT hZ (hw _ (List.mem_of_getElem? (i := 51) rfl)))) (hw _ (List.mem_of_getElem? (i := 51) rfl)) (hw _ (List.mem_of_getElem? (i := 50) rfl)) (hw _ (List.mem_of_getElem? (i := 3) rfl)) (hw _ (List.mem_of_getElem? (i := 52) rfl)) (by decide) (a := b1) (argsL := [(.ref b69), (.int po), (.ref b240)]) (rest := []) e269 E_271 (rmT2 l Z a0 hw [] b1 b69 b240 aw as am kw ks km (0 : Int32) (0 : Int32) w2 (0 : Int32) c0 s2 (own_mask c0) (own_mask c1) (own_mask c2) 5 f3 k240 po wd (e0v ^^^ (-1 : Int32)) (e1v ^^^ (-1 : Int32)) h269 n0 O270 F272 V_273 F274 V_275 F276 V_277 F278 VL279 V_280 gn240 ne241 ne245 ne242 ne243 ne244 hpb.1 (by have := hpb.2; omega) I0.1 I0.2.1 I0.1 I0.2.1 IX.1 IX.2.1 (fun q => ⟨rfl, rfl, LW.2 q⟩)) 0 (by decide) (by decide) (by decide) (by decide) (mkF m 237 #[.val (.long q0), .second, .val (.int p1), .val (.long q2), .second, .val (.int p3), .val (.long q4), .second, .val (.int p5), .val (.long t0), .second, .val (.long t1), .second, .val (.long t2), .second, .val (.int e0v), .val (.int e1v), .val (.int e2v), .val (.int (2 : Int32)), .val (.int po), .val (.ref b1), .val (.ref b69), .val (.ref b240), .unset] [(.ref b240), (.int po), (.ref b69), (.ref b1)]) rfl (by rw [hml]; rfl) (lenOf pd_4 rfl) rfl (hb hby at_237) (Nat.le_of_eq rfl) ?_
    intro v281 T281 L281 X281 hQ281
    obtain ⟨rfl, M281, K281, VI281⟩ := hQ281
    have N281 := Fr.app N269 M281
    have O282 : Old Z n0 T281.heap := O270.keep K281 (allS gn240 all0)
    have E_283 : Exa Z T281.heap b1 "com/example/gieres/gieres/model/TupleTable" := E_271.keep K281
    have F284 : Fld Z T281.heap b1 "com/example/gieres/gieres/model/TupleTable" "word" "[I" (.ref aw) := F272.keep K281 (ninS ne241 nin0)
    have V_285 : Arv Z T281.heap aw kw .int (3 : Int32) [(.int (0 : Int32)), (.int (0 : Int32)), (.int w2)] (.int (0 : Int32)) := V_273.keep K281 (ninS ne242 nin0)
    have F286 : Fld Z T281.heap b1 "com/example/gieres/gieres/model/TupleTable" "shift" "[I" (.ref as) := F274.keep K281 (ninS ne241 nin0)
    have V_287 : Arv Z T281.heap as ks .int (3 : Int32) [(.int (0 : Int32)), (.int c0), (.int s2)] (.int (0 : Int32)) := V_275.keep K281 (ninS ne243 nin0)
    have F288 : Fld Z T281.heap b1 "com/example/gieres/gieres/model/TupleTable" "mask" "[J" (.ref am) := F276.keep K281 (ninS ne241 nin0)
    have V_289 : Arv Z T281.heap am km .long (3 : Int32) [(.long (own_mask c0)), (.long (own_mask c1)), (.long (own_mask c2))] (.long (0 : Int64)) := V_277.keep K281 (ninS ne244 nin0)
    have F290 : Fld Z T281.heap b1 "com/example/gieres/gieres/model/TupleTable" "width" "I" (.int wd) := F278.keep K281 (ninS ne241 nin0)
    have VL291 : LAr Z T281.heap b69 5 f3 := LAr_keep VL279 K281 (ninS ne245 nin0)
    have VJ281 : Arv Z T281.heap b240 k240 .int (2 : Int32) [(.int e0v), (.int e1v)] (.int (0 : Int32)) := by have q := VI281; rw [EV0, EV1] at q; exact q
    show Go p e below _ (T281.setTop (mkF m 240 #[.val (.long q0), .second, .val (.int p1), .val (.long q2), .second, .val (.int p3), .val (.long q4), .second, .val (.int p5), .val (.long t0), .second, .val (.long t1), .second, .val (.long t2), .second, .val (.int e0v), .val (.int e1v), .val (.int e2v), .val (.int (2 : Int32)), .val (.int po), .val (.ref b1), .val (.ref b69), .val (.ref b240), .unset] []))
    refine Go.st (fun _ => XS.aload X281.here hx rfl (hb hby at_240) rfl rfl) ?_
    show Go p e below _ (T281.setTop (mkF m 242 #[.val (.long q0), .second, .val (.int p1), .val (.long q2), .second, .val (.int p3), .val (.long q4), .second, .val (.int p5), .val (.long t0), .second, .val (.long t1), .second, .val (.long t2), .second, .val (.int e0v), .val (.int e1v), .val (.int e2v), .val (.int (2 : Int32)), .val (.int po), .val (.ref b1), .val (.ref b69), .val (.ref b240), .unset] [(.ref b240)]))
    obtain ⟨cl292, Ar292, qk292, Sz292, Nn292, Ha292, Ga292⟩ := id VJ281
    refine Go.st (fun _ => X281.arraylength hx Ar292.1 (State.isArrayOf_alike hZ.alike Ar292.2.1) (g := (mkF m 242 #[.val (.long q0), .second, .val (.int p1), .val (.long q2), .second, .val (.int p3), .val (.long q4), .second, .val (.int p5), .val (.long t0), .second, .val (.long t1), .second, .val (.long t2), .second, .val (.int e0v), .val (.int e1v), .val (.int e2v), .val (.int (2 : Int32)), .val (.int po), .val (.ref b1), .val (.ref b69), .val (.ref b240), .unset] [(.ref b240)])) rfl rfl (hb hby at_242) _) ?_
    rw [len_of Sz292 Nn292]
    show Go p e below _ (T281.setTop (mkF m 243 #[.val (.long q0), .second, .val (.int p1), .val (.long q2), .second, .val (.int p3), .val (.long q4), .second, .val (.int p5), .val (.long t0), .second, .val (.long t1), .second, .val (.long t2), .second, .val (.int e0v), .val (.int e1v), .val (.int e2v), .val (.int (2 : Int32)), .val (.int po), .val (.ref b1), .val (.ref b69), .val (.ref b240), .unset] [(.int (2 : Int32))]))
    refine Go.st (fun _ => XS.iload X281.here hx rfl (hb hby at_243) rfl) ?_
    show Go p e below _ (T281.setTop (mkF m 245 #[.val (.long q0), .second, .val (.int p1), .val (.long q2), .second, .val (.int p3), .val (.long q4), .second, .val (.int p5), .val (.long t0), .second, .val (.long t1), .second, .val (.long t2), .second, .val (.int e0v), .val (.int e1v), .val (.int e2v), .val (.int (2 : Int32)), .val (.int po), .val (.ref b1), .val (.ref b69), .val (.ref b240), .unset] [(.int (2 : Int32)), (.int (2 : Int32))]))
    refine Go.st (fun _ => XS.icmpNo X281.here hx rfl (hb hby at_245) rfl (teq (by decide : (2 : Int32) = (2 : Int32))).2) ?_
    show Go p e below _ (T281.setTop (mkF m 248 #[.val (.long q0), .second, .val (.int p1), .val (.long q2), .second, .val (.int p3), .val (.long q4), .second, .val (.int p5), .val (.long t0), .second, .val (.long t1), .second, .val (.long t2), .second, .val (.int e0v), .val (.int e1v), .val (.int e2v), .val (.int (2 : Int32)), .val (.int po), .val (.ref b1), .val (.ref b69), .val (.ref b240), .unset] []))
    refine Go.st (fun _ => XS.iconst X281.here hx rfl (hb hby at_248)) ?_
    show Go p e below _ (T281.setTop (mkF m 249 #[.val (.long q0), .second, .val (.int p1), .val (.long q2), .second, .val (.int p3), .val (.long q4), .second, .val (.int p5), .val (.long t0), .second, .val (.long t1), .second, .val (.long t2), .second, .val (.int e0v), .val (.int e1v), .val (.int e2v), .val (.int (2 : Int32)), .val (.int po), .val (.ref b1), .val (.ref b69), .val (.ref b240), .unset] [(.int (1 : Int32))]))
    refine Go.st (fun _ => XS.goto X281.here hx rfl (pc0 := 249) (pc' := 253) rfl (hb hby at_249) (by decide) (by decide)) ?_
    show Go p e below _ (T281.setTop (mkF m 253 #[.val (.long q0), .second, .val (.int p1), .val (.long q2), .second, .val (.int p3), .val (.long q4), .second, .val (.int p5), .val (.long t0), .second, .val (.long t1), .second, .val (.long t2), .second, .val (.int e0v), .val (.int e1v), .val (.int e2v), .val (.int (2 : Int32)), .val (.int po), .val (.ref b1), .val (.ref b69), .val (.ref b240), .unset] [(.int (1 : Int32))]))
    refine Go.st (fun _ => XS.istore X281.here hx rfl (hb hby at_253) rfl (l' := #[.val (.long q0), .second, .val (.int p1), .val (.long q2), .second, .val (.int p3), .val (.long q4), .second, .val (.int p5), .val (.long t0), .second, .val (.long t1), .second, .val (.long t2), .second, .val (.int e0v), .val (.int e1v), .val (.int e2v), .val (.int (2 : Int32)), .val (.int po), .val (.ref b1), .val (.ref b69), .val (.ref b240), .val (.int (1 : Int32))]) rfl) ?_
    show Go p e below _ (T281.setTop (mkF m 255 #[.val (.long q0), .second, .val (.int p1), .val (.long q2), .second, .val (.int p3), .val (.long q4), .second, .val (.int p5), .val (.long t0), .second, .val (.long t1), .second, .val (.long t2), .second, .val (.int e0v), .val (.int e1v), .val (.int e2v), .val (.int (2 : Int32)), .val (.int po), .val (.ref b1), .val (.ref b69), .val (.ref b240), .val (.int (1 : Int32))] []))
    refine Go.st (fun _ => XS.iload X281.here hx rfl (hb hby at_255) rfl) ?_
    show Go p e below _ (T281.setTop (mkF m 257 #[.val (.long q0), .second, .val (.int p1), .val (.long q2), .second, .val (.int p3), .val (.long q4), .second, .val (.int p5), .val (.long t0), .second, .val (.long t1), .second, .val (.long t2), .second, .val (.int e0v), .val (.int e1v), .val (.int e2v), .val (.int (2 : Int32)), .val (.int po), .val (.ref b1), .val (.ref b69), .val (.ref b240), .val (.int (1 : Int32))] [(.int (2 : Int32))]))
    refine Go.st (fun _ => XS.ifNo X281.here hx rfl (hb hby at_257) rfl ((if0 _ _).trans (tlt (by decide : (0 : Int32) < (2 : Int32))).2.2.2)) ?_
    show Go p e below _ (T281.setTop (mkF m 260 #[.val (.long q0), .second, .val (.int p1), .val (.long q2), .second, .val (.int p3), .val (.long q4), .second, .val (.int p5), .val (.long t0), .second, .val (.long t1), .second, .val (.long t2), .second, .val (.int e0v), .val (.int e1v), .val (.int e2v), .val (.int (2 : Int32)), .val (.int po), .val (.ref b1), .val (.ref b69), .val (.ref b240), .val (.int (1 : Int32))] []))
    refine Go.st (fun _ => XS.iload X281.here hx rfl (hb hby at_260) rfl) ?_
    show Go p e below _ (T281.setTop (mkF m 262 #[.val (.long q0), .second, .val (.int p1), .val (.long q2), .second, .val (.int p3), .val (.long q4), .second, .val (.int p5), .val (.long t0), .second, .val (.long t1), .second, .val (.long t2), .second, .val (.int e0v), .val (.int e1v), .val (.int e2v), .val (.int (2 : Int32)), .val (.int po), .val (.ref b1), .val (.ref b69), .val (.ref b240), .val (.int (1 : Int32))] [(.int (1 : Int32))]))
    refine Go.st (fun _ => XS.ifNo X281.here hx rfl (hb hby at_262) rfl ((if0 _ _).trans (feq (by decide : ¬ ((1 : Int32) = (0 : Int32)))).1)) ?_
    show Go p e below _ (T281.setTop (mkF m 265 #[.val (.long q0), .second, .val (.int p1), .val (.long q2), .second, .val (.int p3), .val (.long q4), .second, .val (.int p5), .val (.long t0), .second, .val (.long t1), .second, .val (.long t2), .second, .val (.int e0v), .val (.int e1v), .val (.int e2v), .val (.int (2 : Int32)), .val (.int po), .val (.ref b1), .val (.ref b69), .val (.ref b240), .val (.int (1 : Int32))] []))
    refine Go.st (fun _ => XS.aload X281.here hx rfl (hb hby at_265) rfl rfl) ?_
    show Go p e below _ (T281.setTop (mkF m 267 #[.val (.long q0), .second, .val (.int p1), .val (.long q2), .second, .val (.int p3), .val (.long q4), .second, .val (.int p5), .val (.long t0), .second, .val (.long t1), .second, .val (.long t2), .second, .val (.int e0v), .val (.int e1v), .val (.int e2v), .val (.int (2 : Int32)), .val (.int po), .val (.ref b1), .val (.ref b69), .val (.ref b240), .val (.int (1 : Int32))] [(.ref b240)]))
    refine Go.st (fun _ => XS.iconst X281.here hx rfl (hb hby at_267)) ?_
    show Go p e below _ (T281.setTop (mkF m 268 #[.val (.long q0), .second, .val (.int p1), .val (.long q2), .second, .val (.int p3), .val (.long q4), .second, .val (.int p5), .val (.long t0), .second, .val (.long t1), .second, .val (.long t2), .second, .val (.int e0v), .val (.int e1v), .val (.int e2v), .val (.int (2 : Int32)), .val (.int po), .val (.ref b1), .val (.ref b69), .val (.ref b240), .val (.int (1 : Int32))] [(.int (0 : Int32)), (.ref b240)]))
    obtain ⟨cl293, Ar293, qk293, Sz293, Nn293, Ha293, Ga293⟩ := id VJ281
    have hin293 : ¬ ((0 : Int32) < 0 ∨ cl293.slots.size ≤ ((0 : Int32) : Int32).toNatClampNeg) := inb_of Sz293 ⟨by decide, by decide⟩
    refine Go.st (fun _ => X281.iaload hx (j := (0 : Int32)) (v := (.int e0v)) Ar293.1 (State.isArrayOf_alike hZ.alike Ar293.2.1) Ar293.2.2 hin293 (Has.at Ha293 hin293 rfl) (g := (mkF m 268 #[.val (.long q0), .second, .val (.int p1), .val (.long q2), .second, .val (.int p3), .val (.long q4), .second, .val (.int p5), .val (.long t0), .second, .val (.long t1), .second, .val (.long t2), .second, .val (.int e0v), .val (.int e1v), .val (.int e2v), .val (.int (2 : Int32)), .val (.int po), .val (.ref b1), .val (.ref b69), .val (.ref b240), .val (.int (1 : Int32))] [(.int (0 : Int32)), (.ref b240)])) rfl rfl (hb hby at_268) _) ?_
    show Go p e below _ (T281.setTop (mkF m 269 #[.val (.long q0), .second, .val (.int p1), .val (.long q2), .second, .val (.int p3), .val (.long q4), .second, .val (.int p5), .val (.long t0), .second, .val (.long t1), .second, .val (.long t2), .second, .val (.int e0v), .val (.int e1v), .val (.int e2v), .val (.int (2 : Int32)), .val (.int po), .val (.ref b1), .val (.ref b69), .val (.ref b240), .val (.int (1 : Int32))] [(.int e0v)]))
    refine Go.st (fun _ => XS.iload X281.here hx rfl (hb hby at_269) rfl) ?_
    show Go p e below _ (T281.setTop (mkF m 271 #[.val (.long q0), .second, .val (.int p1), .val (.long q2), .second, .val (.int p3), .val (.long q4), .second, .val (.int p5), .val (.long t0), .second, .val (.long t1), .second, .val (.long t2), .second, .val (.int e0v), .val (.int e1v), .val (.int e2v), .val (.int (2 : Int32)), .val (.int po), .val (.ref b1), .val (.ref b69), .val (.ref b240), .val (.int (1 : Int32))] [(.int e0v), (.int e0v)]))
    refine Go.st (fun _ => XS.icmpNo X281.here hx rfl (hb hby at_271) rfl (teq (rfl : e0v = e0v)).2) ?_
    show Go p e below _ (T281.setTop (mkF m 274 #[.val (.long q0), .second, .val (.int p1), .val (.long q2), .second, .val (.int p3), .val (.long q4), .second, .val (.int p5), .val (.long t0), .second, .val (.long t1), .second, .val (.long t2), .second, .val (.int e0v), .val (.int e1v), .val (.int e2v), .val (.int (2 : Int32)), .val (.int po), .val (.ref b1), .val (.ref b69), .val (.ref b240), .val (.int (1 : Int32))] []))
    refine Go.st (fun _ => XS.iconst X281.here hx rfl (hb hby at_274)) ?_
    show Go p e below _ (T281.setTop (mkF m 275 #[.val (.long q0), .second, .val (.int p1), .val (.long q2), .second, .val (.int p3), .val (.long q4), .second, .val (.int p5), .val (.long t0), .second, .val (.long t1), .second, .val (.long t2), .second, .val (.int e0v), .val (.int e1v), .val (.int e2v), .val (.int (2 : Int32)), .val (.int po), .val (.ref b1), .val (.ref b69), .val (.ref b240), .val (.int (1 : Int32))] [(.int (1 : Int32))]))
    refine Go.st (fun _ => XS.goto X281.here hx rfl (pc0 := 275) (pc' := 279) rfl (hb hby at_275) (by decide) (by decide)) ?_
    show Go p e below _ (T281.setTop (mkF m 279 #[.val (.long q0), .second, .val (.int p1), .val (.long q2), .second, .val (.int p3), .val (.long q4), .second, .val (.int p5), .val (.long t0), .second, .val (.long t1), .second, .val (.long t2), .second, .val (.int e0v), .val (.int e1v), .val (.int e2v), .val (.int (2 : Int32)), .val (.int po), .val (.ref b1), .val (.ref b69), .val (.ref b240), .val (.int (1 : Int32))] [(.int (1 : Int32))]))
    refine Go.st (fun _ => XS.istore X281.here hx rfl (hb hby at_279) rfl (l' := #[.val (.long q0), .second, .val (.int p1), .val (.long q2), .second, .val (.int p3), .val (.long q4), .second, .val (.int p5), .val (.long t0), .second, .val (.long t1), .second, .val (.long t2), .second, .val (.int e0v), .val (.int e1v), .val (.int e2v), .val (.int (2 : Int32)), .val (.int po), .val (.ref b1), .val (.ref b69), .val (.ref b240), .val (.int (1 : Int32))]) rfl) ?_
    show Go p e below _ (T281.setTop (mkF m 281 #[.val (.long q0), .second, .val (.int p1), .val (.long q2), .second, .val (.int p3), .val (.long q4), .second, .val (.int p5), .val (.long t0), .second, .val (.long t1), .second, .val (.long t2), .second, .val (.int e0v), .val (.int e1v), .val (.int e2v), .val (.int (2 : Int32)), .val (.int po), .val (.ref b1), .val (.ref b69), .val (.ref b240), .val (.int (1 : Int32))] []))
    refine Go.st (fun _ => XS.iload X281.here hx rfl (hb hby at_281) rfl) ?_
    show Go p e below _ (T281.setTop (mkF m 283 #[.val (.long q0), .second, .val (.int p1), .val (.long q2), .second, .val (.int p3), .val (.long q4), .second, .val (.int p5), .val (.long t0), .second, .val (.long t1), .second, .val (.long t2), .second, .val (.int e0v), .val (.int e1v), .val (.int e2v), .val (.int (2 : Int32)), .val (.int po), .val (.ref b1), .val (.ref b69), .val (.ref b240), .val (.int (1 : Int32))] [(.int (2 : Int32))]))
    refine Go.st (fun _ => XS.iconst X281.here hx rfl (hb hby at_283)) ?_
    show Go p e below _ (T281.setTop (mkF m 284 #[.val (.long q0), .second, .val (.int p1), .val (.long q2), .second, .val (.int p3), .val (.long q4), .second, .val (.int p5), .val (.long t0), .second, .val (.long t1), .second, .val (.long t2), .second, .val (.int e0v), .val (.int e1v), .val (.int e2v), .val (.int (2 : Int32)), .val (.int po), .val (.ref b1), .val (.ref b69), .val (.ref b240), .val (.int (1 : Int32))] [(.int (1 : Int32)), (.int (2 : Int32))]))
    refine Go.st (fun _ => XS.icmpNo X281.here hx rfl (hb hby at_284) rfl (tlt (by decide : (1 : Int32) < (2 : Int32))).2.2.2) ?_
    show Go p e below _ (T281.setTop (mkF m 287 #[.val (.long q0), .second, .val (.int p1), .val (.long q2), .second, .val (.int p3), .val (.long q4), .second, .val (.int p5), .val (.long t0), .second, .val (.long t1), .second, .val (.long t2), .second, .val (.int e0v), .val (.int e1v), .val (.int e2v), .val (.int (2 : Int32)), .val (.int po), .val (.ref b1), .val (.ref b69), .val (.ref b240), .val (.int (1 : Int32))] []))
    refine Go.st (fun _ => XS.iload X281.here hx rfl (hb hby at_287) rfl) ?_
    show Go p e below _ (T281.setTop (mkF m 289 #[.val (.long q0), .second, .val (.int p1), .val (.long q2), .second, .val (.int p3), .val (.long q4), .second, .val (.int p5), .val (.long t0), .second, .val (.long t1), .second, .val (.long t2), .second, .val (.int e0v), .val (.int e1v), .val (.int e2v), .val (.int (2 : Int32)), .val (.int po), .val (.ref b1), .val (.ref b69), .val (.ref b240), .val (.int (1 : Int32))] [(.int (1 : Int32))]))
    refine Go.st (fun _ => XS.ifNo X281.here hx rfl (hb hby at_289) rfl ((if0 _ _).trans (feq (by decide : ¬ ((1 : Int32) = (0 : Int32)))).1)) ?_
    show Go p e below _ (T281.setTop (mkF m 292 #[.val (.long q0), .second, .val (.int p1), .val (.long q2), .second, .val (.int p3), .val (.long q4), .second, .val (.int p5), .val (.long t0), .second, .val (.long t1), .second, .val (.long t2), .second, .val (.int e0v), .val (.int e1v), .val (.int e2v), .val (.int (2 : Int32)), .val (.int po), .val (.ref b1), .val (.ref b69), .val (.ref b240), .val (.int (1 : Int32))] []))
    refine Go.st (fun _ => XS.aload X281.here hx rfl (hb hby at_292) rfl rfl) ?_
    show Go p e below _ (T281.setTop (mkF m 294 #[.val (.long q0), .second, .val (.int p1), .val (.long q2), .second, .val (.int p3), .val (.long q4), .second, .val (.int p5), .val (.long t0), .second, .val (.long t1), .second, .val (.long t2), .second, .val (.int e0v), .val (.int e1v), .val (.int e2v), .val (.int (2 : Int32)), .val (.int po), .val (.ref b1), .val (.ref b69), .val (.ref b240), .val (.int (1 : Int32))] [(.ref b240)]))
    refine Go.st (fun _ => XS.iconst X281.here hx rfl (hb hby at_294)) ?_
    show Go p e below _ (T281.setTop (mkF m 295 #[.val (.long q0), .second, .val (.int p1), .val (.long q2), .second, .val (.int p3), .val (.long q4), .second, .val (.int p5), .val (.long t0), .second, .val (.long t1), .second, .val (.long t2), .second, .val (.int e0v), .val (.int e1v), .val (.int e2v), .val (.int (2 : Int32)), .val (.int po), .val (.ref b1), .val (.ref b69), .val (.ref b240), .val (.int (1 : Int32))] [(.int (1 : Int32)), (.ref b240)]))
    obtain ⟨cl294, Ar294, qk294, Sz294, Nn294, Ha294, Ga294⟩ := id VJ281
    have hin294 : ¬ ((1 : Int32) < 0 ∨ cl294.slots.size ≤ ((1 : Int32) : Int32).toNatClampNeg) := inb_of Sz294 ⟨by decide, by decide⟩
    refine Go.st (fun _ => X281.iaload hx (j := (1 : Int32)) (v := (.int e1v)) Ar294.1 (State.isArrayOf_alike hZ.alike Ar294.2.1) Ar294.2.2 hin294 (Has.at Ha294 hin294 rfl) (g := (mkF m 295 #[.val (.long q0), .second, .val (.int p1), .val (.long q2), .second, .val (.int p3), .val (.long q4), .second, .val (.int p5), .val (.long t0), .second, .val (.long t1), .second, .val (.long t2), .second, .val (.int e0v), .val (.int e1v), .val (.int e2v), .val (.int (2 : Int32)), .val (.int po), .val (.ref b1), .val (.ref b69), .val (.ref b240), .val (.int (1 : Int32))] [(.int (1 : Int32)), (.ref b240)])) rfl rfl (hb hby at_295) _) ?_
    show Go p e below _ (T281.setTop (mkF m 296 #[.val (.long q0), .second, .val (.int p1), .val (.long q2), .second, .val (.int p3), .val (.long q4), .second, .val (.int p5), .val (.long t0), .second, .val (.long t1), .second, .val (.long t2), .second, .val (.int e0v), .val (.int e1v), .val (.int e2v), .val (.int (2 : Int32)), .val (.int po), .val (.ref b1), .val (.ref b69), .val (.ref b240), .val (.int (1 : Int32))] [(.int e1v)]))
    refine Go.st (fun _ => XS.iload X281.here hx rfl (hb hby at_296) rfl) ?_
    show Go p e below _ (T281.setTop (mkF m 298 #[.val (.long q0), .second, .val (.int p1), .val (.long q2), .second, .val (.int p3), .val (.long q4), .second, .val (.int p5), .val (.long t0), .second, .val (.long t1), .second, .val (.long t2), .second, .val (.int e0v), .val (.int e1v), .val (.int e2v), .val (.int (2 : Int32)), .val (.int po), .val (.ref b1), .val (.ref b69), .val (.ref b240), .val (.int (1 : Int32))] [(.int e1v), (.int e1v)]))
    refine Go.st (fun _ => XS.icmpNo X281.here hx rfl (hb hby at_298) rfl (teq (rfl : e1v = e1v)).2) ?_
    show Go p e below _ (T281.setTop (mkF m 301 #[.val (.long q0), .second, .val (.int p1), .val (.long q2), .second, .val (.int p3), .val (.long q4), .second, .val (.int p5), .val (.long t0), .second, .val (.long t1), .second, .val (.long t2), .second, .val (.int e0v), .val (.int e1v), .val (.int e2v), .val (.int (2 : Int32)), .val (.int po), .val (.ref b1), .val (.ref b69), .val (.ref b240), .val (.int (1 : Int32))] []))
    refine Go.st (fun _ => XS.iconst X281.here hx rfl (hb hby at_301)) ?_
    show Go p e below _ (T281.setTop (mkF m 302 #[.val (.long q0), .second, .val (.int p1), .val (.long q2), .second, .val (.int p3), .val (.long q4), .second, .val (.int p5), .val (.long t0), .second, .val (.long t1), .second, .val (.long t2), .second, .val (.int e0v), .val (.int e1v), .val (.int e2v), .val (.int (2 : Int32)), .val (.int po), .val (.ref b1), .val (.ref b69), .val (.ref b240), .val (.int (1 : Int32))] [(.int (1 : Int32))]))
    refine Go.st (fun _ => XS.goto X281.here hx rfl (pc0 := 302) (pc' := 306) rfl (hb hby at_302) (by decide) (by decide)) ?_
    show Go p e below _ (T281.setTop (mkF m 306 #[.val (.long q0), .second, .val (.int p1), .val (.long q2), .second, .val (.int p3), .val (.long q4), .second, .val (.int p5), .val (.long t0), .second, .val (.long t1), .second, .val (.long t2), .second, .val (.int e0v), .val (.int e1v), .val (.int e2v), .val (.int (2 : Int32)), .val (.int po), .val (.ref b1), .val (.ref b69), .val (.ref b240), .val (.int (1 : Int32))] [(.int (1 : Int32))]))
    refine Go.st (fun _ => XS.istore X281.here hx rfl (hb hby at_306) rfl (l' := #[.val (.long q0), .second, .val (.int p1), .val (.long q2), .second, .val (.int p3), .val (.long q4), .second, .val (.int p5), .val (.long t0), .second, .val (.long t1), .second, .val (.long t2), .second, .val (.int e0v), .val (.int e1v), .val (.int e2v), .val (.int (2 : Int32)), .val (.int po), .val (.ref b1), .val (.ref b69), .val (.ref b240), .val (.int (1 : Int32))]) rfl) ?_
    show Go p e below _ (T281.setTop (mkF m 308 #[.val (.long q0), .second, .val (.int p1), .val (.long q2), .second, .val (.int p3), .val (.long q4), .second, .val (.int p5), .val (.long t0), .second, .val (.long t1), .second, .val (.long t2), .second, .val (.int e0v), .val (.int e1v), .val (.int e2v), .val (.int (2 : Int32)), .val (.int po), .val (.ref b1), .val (.ref b69), .val (.ref b240), .val (.int (1 : Int32))] []))
    refine Go.st (fun _ => XS.iload X281.here hx rfl (hb hby at_308) rfl) ?_
    show Go p e below _ (T281.setTop (mkF m 310 #[.val (.long q0), .second, .val (.int p1), .val (.long q2), .second, .val (.int p3), .val (.long q4), .second, .val (.int p5), .val (.long t0), .second, .val (.long t1), .second, .val (.long t2), .second, .val (.int e0v), .val (.int e1v), .val (.int e2v), .val (.int (2 : Int32)), .val (.int po), .val (.ref b1), .val (.ref b69), .val (.ref b240), .val (.int (1 : Int32))] [(.int (2 : Int32))]))
    refine Go.st (fun _ => XS.iconst X281.here hx rfl (hb hby at_310)) ?_
    show Go p e below _ (T281.setTop (mkF m 311 #[.val (.long q0), .second, .val (.int p1), .val (.long q2), .second, .val (.int p3), .val (.long q4), .second, .val (.int p5), .val (.long t0), .second, .val (.long t1), .second, .val (.long t2), .second, .val (.int e0v), .val (.int e1v), .val (.int e2v), .val (.int (2 : Int32)), .val (.int po), .val (.ref b1), .val (.ref b69), .val (.ref b240), .val (.int (1 : Int32))] [(.int (2 : Int32)), (.int (2 : Int32))]))
    refine Go.st (fun _ => XS.icmpYes X281.here hx rfl (pc0 := 311) (pc' := 335) rfl (hb hby at_311) rfl (flt (by decide : ¬ ((2 : Int32) < (2 : Int32)))).2.2.2 (by decide) (by decide)) ?_
    show Go p e below _ (T281.setTop (mkF m 335 #[.val (.long q0), .second, .val (.int p1), .val (.long q2), .second, .val (.int p3), .val (.long q4), .second, .val (.int p5), .val (.long t0), .second, .val (.long t1), .second, .val (.long t2), .second, .val (.int e0v), .val (.int e1v), .val (.int e2v), .val (.int (2 : Int32)), .val (.int po), .val (.ref b1), .val (.ref b69), .val (.ref b240), .val (.int (1 : Int32))] []))
    refine Go.st (fun _ => XS.iload X281.here hx rfl (hb hby at_335) rfl) ?_
    show Go p e below _ (T281.setTop (mkF m 337 #[.val (.long q0), .second, .val (.int p1), .val (.long q2), .second, .val (.int p3), .val (.long q4), .second, .val (.int p5), .val (.long t0), .second, .val (.long t1), .second, .val (.long t2), .second, .val (.int e0v), .val (.int e1v), .val (.int e2v), .val (.int (2 : Int32)), .val (.int po), .val (.ref b1), .val (.ref b69), .val (.ref b240), .val (.int (1 : Int32))] [(.int (1 : Int32))]))
    exact goRetN X281 hx hlk hret (t := .boolean) (by simp) (w := (1 : Int32)) (by decide) rfl (hb hby at_337) (by decide) (by decide) ⟨rfl, N281⟩
  · rw [ql]
    show Go p e below _ (T159.setTop (mkF m 182 #[.val (.long q0), .second, .val (.int p1), .val (.long q2), .second, .val (.int p3), .val (.long q4), .second, .val (.int p5), .val (.long t0), .second, .val (.long t1), .second, .val (.long t2), .second, .val (.int e0v), .val (.int e1v), .val (.int e2v), .val (.int (3 : Int32)), .val (.int po), .val (.ref b1), .val (.ref b69), .unset, .unset] []))
    refine Go.st (fun _ => XS.iload X159.here hx rfl (hb hby at_182) rfl) ?_
    show Go p e below _ (T159.setTop (mkF m 184 #[.val (.long q0), .second, .val (.int p1), .val (.long q2), .second, .val (.int p3), .val (.long q4), .second, .val (.int p5), .val (.long t0), .second, .val (.long t1), .second, .val (.long t2), .second, .val (.int e0v), .val (.int e1v), .val (.int e2v), .val (.int (3 : Int32)), .val (.int po), .val (.ref b1), .val (.ref b69), .unset, .unset] [(.int (3 : Int32))]))
    obtain ⟨T295, h295, k295, X295, e295, E295, A295, st295⟩ := newP X159 hx hZ (hw _ (List.mem_of_getElem? (i := 17) rfl)) rfl (g := (mkF m 184 #[.val (.long q0), .second, .val (.int p1), .val (.long q2), .second, .val (.int p3), .val (.long q4), .second, .val (.int p5), .val (.long t0), .second, .val (.long t1), .second, .val (.long t2), .second, .val (.int e0v), .val (.int e1v), .val (.int e2v), .val (.int (3 : Int32)), .val (.int po), .val (.ref b1), .val (.ref b69), .unset, .unset] [(.int (3 : Int32))])) rfl (hb hby at_184) rfl (by decide) (cap := 3) (by decide) (by decide) (by decide) (by decide)
    obtain ⟨b295, g295⟩ : ∃ z, z = T159.heap.size := ⟨_, rfl⟩
    rw [← g295] at A295 st295
    refine Go.st st295 ?_
    have gn295 : n0 ≤ b295 := oldGe O160 g295
    have ne296 : b1 ≠ b295 := Nat.ne_of_lt (Nat.lt_of_lt_of_le E_161.lt (Nat.le_of_eq g295.symm))
    have ne297 : aw ≠ b295 := Nat.ne_of_lt (Nat.lt_of_lt_of_le V_163.lt (Nat.le_of_eq g295.symm))
    have ne298 : as ≠ b295 := Nat.ne_of_lt (Nat.lt_of_lt_of_le V_165.lt (Nat.le_of_eq g295.symm))
    have ne299 : am ≠ b295 := Nat.ne_of_lt (Nat.lt_of_lt_of_le V_167.lt (Nat.le_of_eq g295.symm))
    have ne300 : b69 ≠ b295 := Nat.ne_of_lt (Nat.lt_of_lt_of_le (LAr_lt KA159) (Nat.le_of_eq g295.symm))
    have O301 : Old Z n0 h295 := O160.ext E295
    have E_302 : Exa Z h295 b1 "com/example/gieres/gieres/model/TupleTable" := E_161.ext E295
    have F303 : Fld Z h295 b1 "com/example/gieres/gieres/model/TupleTable" "word" "[I" (.ref aw) := F162.ext E295
    have V_304 : Arv Z h295 aw kw .int (3 : Int32) [(.int (0 : Int32)), (.int (0 : Int32)), (.int w2)] (.int (0 : Int32)) := V_163.ext E295
    have F305 : Fld Z h295 b1 "com/example/gieres/gieres/model/TupleTable" "shift" "[I" (.ref as) := F164.ext E295
    have V_306 : Arv Z h295 as ks .int (3 : Int32) [(.int (0 : Int32)), (.int c0), (.int s2)] (.int (0 : Int32)) := V_165.ext E295
    have F307 : Fld Z h295 b1 "com/example/gieres/gieres/model/TupleTable" "mask" "[J" (.ref am) := F166.ext E295
    have V_308 : Arv Z h295 am km .long (3 : Int32) [(.long (own_mask c0)), (.long (own_mask c1)), (.long (own_mask c2))] (.long (0 : Int64)) := V_167.ext E295
    have F309 : Fld Z h295 b1 "com/example/gieres/gieres/model/TupleTable" "width" "I" (.int wd) := F168.ext E295
    have VL310 : LAr Z h295 b69 5 f3 := LAr_ext KA159 E295
    have V_311 : Arv Z h295 b295 k295 .int (3 : Int32) [(.int (0 : Int32)), (.int (0 : Int32)), (.int (0 : Int32))] (.int (0 : Int32)) := (Arv.new A295 (by decide)).pad (pad_rep [] (.int (0 : Int32)) 3)
    show Go p e below _ (T295.setTop (mkF m 186 #[.val (.long q0), .second, .val (.int p1), .val (.long q2), .second, .val (.int p3), .val (.long q4), .second, .val (.int p5), .val (.long t0), .second, .val (.long t1), .second, .val (.long t2), .second, .val (.int e0v), .val (.int e1v), .val (.int e2v), .val (.int (3 : Int32)), .val (.int po), .val (.ref b1), .val (.ref b69), .unset, .unset] [(.ref b295)]))
    refine Go.st (fun _ => XS.astore X295.here hx rfl (hb hby at_186) rfl rfl (l' := #[.val (.long q0), .second, .val (.int p1), .val (.long q2), .second, .val (.int p3), .val (.long q4), .second, .val (.int p5), .val (.long t0), .second, .val (.long t1), .second, .val (.long t2), .second, .val (.int e0v), .val (.int e1v), .val (.int e2v), .val (.int (3 : Int32)), .val (.int po), .val (.ref b1), .val (.ref b69), .val (.ref b295), .unset]) rfl) ?_
    show Go p e below _ (T295.setTop (mkF m 188 #[.val (.long q0), .second, .val (.int p1), .val (.long q2), .second, .val (.int p3), .val (.long q4), .second, .val (.int p5), .val (.long t0), .second, .val (.long t1), .second, .val (.long t2), .second, .val (.int e0v), .val (.int e1v), .val (.int e2v), .val (.int (3 : Int32)), .val (.int po), .val (.ref b1), .val (.ref b69), .val (.ref b295), .unset] []))
    refine Go.st (fun _ => XS.iload X295.here hx rfl (hb hby at_188) rfl) ?_
    show Go p e below _ (T295.setTop (mkF m 190 #[.val (.long q0), .second, .val (.int p1), .val (.long q2), .second, .val (.int p3), .val (.long q4), .second, .val (.int p5), .val (.long t0), .second, .val (.long t1), .second, .val (.long t2), .second, .val (.int e0v), .val (.int e1v), .val (.int e2v), .val (.int (3 : Int32)), .val (.int po), .val (.ref b1), .val (.ref b69), .val (.ref b295), .unset] [(.int (3 : Int32))]))
    refine Go.st (fun _ => XS.ifNo X295.here hx rfl (hb hby at_190) rfl ((if0 _ _).trans (tlt (by decide : (0 : Int32) < (3 : Int32))).2.2.2)) ?_
    show Go p e below _ (T295.setTop (mkF m 193 #[.val (.long q0), .second, .val (.int p1), .val (.long q2), .second, .val (.int p3), .val (.long q4), .second, .val (.int p5), .val (.long t0), .second, .val (.long t1), .second, .val (.long t2), .second, .val (.int e0v), .val (.int e1v), .val (.int e2v), .val (.int (3 : Int32)), .val (.int po), .val (.ref b1), .val (.ref b69), .val (.ref b295), .unset] []))
    refine Go.st (fun _ => XS.aload X295.here hx rfl (hb hby at_193) rfl rfl) ?_
    show Go p e below _ (T295.setTop (mkF m 195 #[.val (.long q0), .second, .val (.int p1), .val (.long q2), .second, .val (.int p3), .val (.long q4), .second, .val (.int p5), .val (.long t0), .second, .val (.long t1), .second, .val (.long t2), .second, .val (.int e0v), .val (.int e1v), .val (.int e2v), .val (.int (3 : Int32)), .val (.int po), .val (.ref b1), .val (.ref b69), .val (.ref b295), .unset] [(.ref b295)]))
    refine Go.st (fun _ => XS.iconst X295.here hx rfl (hb hby at_195)) ?_
    show Go p e below _ (T295.setTop (mkF m 196 #[.val (.long q0), .second, .val (.int p1), .val (.long q2), .second, .val (.int p3), .val (.long q4), .second, .val (.int p5), .val (.long t0), .second, .val (.long t1), .second, .val (.long t2), .second, .val (.int e0v), .val (.int e1v), .val (.int e2v), .val (.int (3 : Int32)), .val (.int po), .val (.ref b1), .val (.ref b69), .val (.ref b295), .unset] [(.int (0 : Int32)), (.ref b295)]))
    refine Go.st (fun _ => XS.iload X295.here hx rfl (hb hby at_196) rfl) ?_
    show Go p e below _ (T295.setTop (mkF m 198 #[.val (.long q0), .second, .val (.int p1), .val (.long q2), .second, .val (.int p3), .val (.long q4), .second, .val (.int p5), .val (.long t0), .second, .val (.long t1), .second, .val (.long t2), .second, .val (.int e0v), .val (.int e1v), .val (.int e2v), .val (.int (3 : Int32)), .val (.int po), .val (.ref b1), .val (.ref b69), .val (.ref b295), .unset] [(.int e0v), (.int (0 : Int32)), (.ref b295)]))
    refine Go.st (fun _ => XS.iconst X295.here hx rfl (hb hby at_198)) ?_
    show Go p e below _ (T295.setTop (mkF m 199 #[.val (.long q0), .second, .val (.int p1), .val (.long q2), .second, .val (.int p3), .val (.long q4), .second, .val (.int p5), .val (.long t0), .second, .val (.long t1), .second, .val (.long t2), .second, .val (.int e0v), .val (.int e1v), .val (.int e2v), .val (.int (3 : Int32)), .val (.int po), .val (.ref b1), .val (.ref b69), .val (.ref b295), .unset] [(.int (-1 : Int32)), (.int e0v), (.int (0 : Int32)), (.ref b295)]))
    refine Go.st (fun _ => XS.ixor X295.here hx rfl (hb hby at_199) rfl) ?_
    show Go p e below _ (T295.setTop (mkF m 200 #[.val (.long q0), .second, .val (.int p1), .val (.long q2), .second, .val (.int p3), .val (.long q4), .second, .val (.int p5), .val (.long t0), .second, .val (.long t1), .second, .val (.long t2), .second, .val (.int e0v), .val (.int e1v), .val (.int e2v), .val (.int (3 : Int32)), .val (.int po), .val (.ref b1), .val (.ref b69), .val (.ref b295), .unset] [(.int (e0v ^^^ (-1 : Int32))), (.int (0 : Int32)), (.ref b295)]))
    obtain ⟨cl312, Ar312, qk312, Sz312, Nn312, Ha312, Ga312⟩ := id V_311
    have hin312 : ¬ ((0 : Int32) < 0 ∨ cl312.slots.size ≤ ((0 : Int32) : Int32).toNatClampNeg) := inb_of Sz312 ⟨by decide, by decide⟩
    obtain ⟨T312, h312, X312, e312, W312, st312⟩ := stI X295 hx hZ e295 Ar312 (j := (0 : Int32)) hin312 (g := (mkF m 200 #[.val (.long q0), .second, .val (.int p1), .val (.long q2), .second, .val (.int p3), .val (.long q4), .second, .val (.int p5), .val (.long t0), .second, .val (.long t1), .second, .val (.long t2), .second, .val (.int e0v), .val (.int e1v), .val (.int e2v), .val (.int (3 : Int32)), .val (.int po), .val (.ref b1), .val (.ref b69), .val (.ref b295), .unset] [(.int (e0v ^^^ (-1 : Int32))), (.int (0 : Int32)), (.ref b295)])) rfl rfl (hb hby at_200)
    refine Go.st st312 ?_
    have O313 : Old Z n0 h312 := O301.wr W312 gn295
    have E_314 : Exa Z h312 b1 "com/example/gieres/gieres/model/TupleTable" := E_302.wr W312
    have F315 : Fld Z h312 b1 "com/example/gieres/gieres/model/TupleTable" "word" "[I" (.ref aw) := F303.other W312 (Or.inl ne296)
    have V_316 : Arv Z h312 aw kw .int (3 : Int32) [(.int (0 : Int32)), (.int (0 : Int32)), (.int w2)] (.int (0 : Int32)) := V_304.other W312 ne297
    have F317 : Fld Z h312 b1 "com/example/gieres/gieres/model/TupleTable" "shift" "[I" (.ref as) := F305.other W312 (Or.inl ne296)
    have V_318 : Arv Z h312 as ks .int (3 : Int32) [(.int (0 : Int32)), (.int c0), (.int s2)] (.int (0 : Int32)) := V_306.other W312 ne298
    have F319 : Fld Z h312 b1 "com/example/gieres/gieres/model/TupleTable" "mask" "[J" (.ref am) := F307.other W312 (Or.inl ne296)
    have V_320 : Arv Z h312 am km .long (3 : Int32) [(.long (own_mask c0)), (.long (own_mask c1)), (.long (own_mask c2))] (.long (0 : Int64)) := V_308.other W312 ne299
    have F321 : Fld Z h312 b1 "com/example/gieres/gieres/model/TupleTable" "width" "I" (.int wd) := F309.other W312 (Or.inl ne296)
    have VL322 : LAr Z h312 b69 5 f3 := LAr_other VL310 W312 ne300
    have V_323 : Arv Z h312 b295 k295 .int (3 : Int32) [(.int (e0v ^^^ (-1 : Int32))), (.int (0 : Int32)), (.int (0 : Int32))] (.int (0 : Int32)) := Arv.set Ar312 qk312 Sz312 Nn312 Ha312 Ga312 rfl W312 0 rfl (Nat.le_of_ble_eq_true rfl)
    have N312 := Fr.snoc X312 N159 gn295
    show Go p e below _ (T312.setTop (mkF m 201 #[.val (.long q0), .second, .val (.int p1), .val (.long q2), .second, .val (.int p3), .val (.long q4), .second, .val (.int p5), .val (.long t0), .second, .val (.long t1), .second, .val (.long t2), .second, .val (.int e0v), .val (.int e1v), .val (.int e2v), .val (.int (3 : Int32)), .val (.int po), .val (.ref b1), .val (.ref b69), .val (.ref b295), .unset] []))
    refine Go.st (fun _ => XS.iload X312.here hx rfl (hb hby at_201) rfl) ?_
    show Go p e below _ (T312.setTop (mkF m 203 #[.val (.long q0), .second, .val (.int p1), .val (.long q2), .second, .val (.int p3), .val (.long q4), .second, .val (.int p5), .val (.long t0), .second, .val (.long t1), .second, .val (.long t2), .second, .val (.int e0v), .val (.int e1v), .val (.int e2v), .val (.int (3 : Int32)), .val (.int po), .val (.ref b1), .val (.ref b69), .val (.ref b295), .unset] [(.int (3 : Int32))]))
    refine Go.st (fun _ => XS.iconst X312.here hx rfl (hb hby at_203)) ?_
    show Go p e below _ (T312.setTop (mkF m 204 #[.val (.long q0), .second, .val (.int p1), .val (.long q2), .second, .val (.int p3), .val (.long q4), .second, .val (.int p5), .val (.long t0), .second, .val (.long t1), .second, .val (.long t2), .second, .val (.int e0v), .val (.int e1v), .val (.int e2v), .val (.int (3 : Int32)), .val (.int po), .val (.ref b1), .val (.ref b69), .val (.ref b295), .unset] [(.int (1 : Int32)), (.int (3 : Int32))]))
    refine Go.st (fun _ => XS.icmpNo X312.here hx rfl (hb hby at_204) rfl (tlt (by decide : (1 : Int32) < (3 : Int32))).2.2.2) ?_
    show Go p e below _ (T312.setTop (mkF m 207 #[.val (.long q0), .second, .val (.int p1), .val (.long q2), .second, .val (.int p3), .val (.long q4), .second, .val (.int p5), .val (.long t0), .second, .val (.long t1), .second, .val (.long t2), .second, .val (.int e0v), .val (.int e1v), .val (.int e2v), .val (.int (3 : Int32)), .val (.int po), .val (.ref b1), .val (.ref b69), .val (.ref b295), .unset] []))
    refine Go.st (fun _ => XS.aload X312.here hx rfl (hb hby at_207) rfl rfl) ?_
    show Go p e below _ (T312.setTop (mkF m 209 #[.val (.long q0), .second, .val (.int p1), .val (.long q2), .second, .val (.int p3), .val (.long q4), .second, .val (.int p5), .val (.long t0), .second, .val (.long t1), .second, .val (.long t2), .second, .val (.int e0v), .val (.int e1v), .val (.int e2v), .val (.int (3 : Int32)), .val (.int po), .val (.ref b1), .val (.ref b69), .val (.ref b295), .unset] [(.ref b295)]))
    refine Go.st (fun _ => XS.iconst X312.here hx rfl (hb hby at_209)) ?_
    show Go p e below _ (T312.setTop (mkF m 210 #[.val (.long q0), .second, .val (.int p1), .val (.long q2), .second, .val (.int p3), .val (.long q4), .second, .val (.int p5), .val (.long t0), .second, .val (.long t1), .second, .val (.long t2), .second, .val (.int e0v), .val (.int e1v), .val (.int e2v), .val (.int (3 : Int32)), .val (.int po), .val (.ref b1), .val (.ref b69), .val (.ref b295), .unset] [(.int (1 : Int32)), (.ref b295)]))
    refine Go.st (fun _ => XS.iload X312.here hx rfl (hb hby at_210) rfl) ?_
    show Go p e below _ (T312.setTop (mkF m 212 #[.val (.long q0), .second, .val (.int p1), .val (.long q2), .second, .val (.int p3), .val (.long q4), .second, .val (.int p5), .val (.long t0), .second, .val (.long t1), .second, .val (.long t2), .second, .val (.int e0v), .val (.int e1v), .val (.int e2v), .val (.int (3 : Int32)), .val (.int po), .val (.ref b1), .val (.ref b69), .val (.ref b295), .unset] [(.int e1v), (.int (1 : Int32)), (.ref b295)]))
    refine Go.st (fun _ => XS.iconst X312.here hx rfl (hb hby at_212)) ?_
    show Go p e below _ (T312.setTop (mkF m 213 #[.val (.long q0), .second, .val (.int p1), .val (.long q2), .second, .val (.int p3), .val (.long q4), .second, .val (.int p5), .val (.long t0), .second, .val (.long t1), .second, .val (.long t2), .second, .val (.int e0v), .val (.int e1v), .val (.int e2v), .val (.int (3 : Int32)), .val (.int po), .val (.ref b1), .val (.ref b69), .val (.ref b295), .unset] [(.int (-1 : Int32)), (.int e1v), (.int (1 : Int32)), (.ref b295)]))
    refine Go.st (fun _ => XS.ixor X312.here hx rfl (hb hby at_213) rfl) ?_
    show Go p e below _ (T312.setTop (mkF m 214 #[.val (.long q0), .second, .val (.int p1), .val (.long q2), .second, .val (.int p3), .val (.long q4), .second, .val (.int p5), .val (.long t0), .second, .val (.long t1), .second, .val (.long t2), .second, .val (.int e0v), .val (.int e1v), .val (.int e2v), .val (.int (3 : Int32)), .val (.int po), .val (.ref b1), .val (.ref b69), .val (.ref b295), .unset] [(.int (e1v ^^^ (-1 : Int32))), (.int (1 : Int32)), (.ref b295)]))
    obtain ⟨cl324, Ar324, qk324, Sz324, Nn324, Ha324, Ga324⟩ := id V_323
    have hin324 : ¬ ((1 : Int32) < 0 ∨ cl324.slots.size ≤ ((1 : Int32) : Int32).toNatClampNeg) := inb_of Sz324 ⟨by decide, by decide⟩
    obtain ⟨T324, h324, X324, e324, W324, st324⟩ := stI X312 hx hZ e312 Ar324 (j := (1 : Int32)) hin324 (g := (mkF m 214 #[.val (.long q0), .second, .val (.int p1), .val (.long q2), .second, .val (.int p3), .val (.long q4), .second, .val (.int p5), .val (.long t0), .second, .val (.long t1), .second, .val (.long t2), .second, .val (.int e0v), .val (.int e1v), .val (.int e2v), .val (.int (3 : Int32)), .val (.int po), .val (.ref b1), .val (.ref b69), .val (.ref b295), .unset] [(.int (e1v ^^^ (-1 : Int32))), (.int (1 : Int32)), (.ref b295)])) rfl rfl (hb hby at_214)
    refine Go.st st324 ?_
    have O325 : Old Z n0 h324 := O313.wr W324 gn295
    have E_326 : Exa Z h324 b1 "com/example/gieres/gieres/model/TupleTable" := E_314.wr W324
    have F327 : Fld Z h324 b1 "com/example/gieres/gieres/model/TupleTable" "word" "[I" (.ref aw) := F315.other W324 (Or.inl ne296)
    have V_328 : Arv Z h324 aw kw .int (3 : Int32) [(.int (0 : Int32)), (.int (0 : Int32)), (.int w2)] (.int (0 : Int32)) := V_316.other W324 ne297
    have F329 : Fld Z h324 b1 "com/example/gieres/gieres/model/TupleTable" "shift" "[I" (.ref as) := F317.other W324 (Or.inl ne296)
    have V_330 : Arv Z h324 as ks .int (3 : Int32) [(.int (0 : Int32)), (.int c0), (.int s2)] (.int (0 : Int32)) := V_318.other W324 ne298
    have F331 : Fld Z h324 b1 "com/example/gieres/gieres/model/TupleTable" "mask" "[J" (.ref am) := F319.other W324 (Or.inl ne296)
    have V_332 : Arv Z h324 am km .long (3 : Int32) [(.long (own_mask c0)), (.long (own_mask c1)), (.long (own_mask c2))] (.long (0 : Int64)) := V_320.other W324 ne299
    have F333 : Fld Z h324 b1 "com/example/gieres/gieres/model/TupleTable" "width" "I" (.int wd) := F321.other W324 (Or.inl ne296)
    have VL334 : LAr Z h324 b69 5 f3 := LAr_other VL322 W324 ne300
    have V_335 : Arv Z h324 b295 k295 .int (3 : Int32) [(.int (e0v ^^^ (-1 : Int32))), (.int (e1v ^^^ (-1 : Int32))), (.int (0 : Int32))] (.int (0 : Int32)) := Arv.set Ar324 qk324 Sz324 Nn324 Ha324 Ga324 rfl W324 1 rfl (Nat.le_of_ble_eq_true rfl)
    have N324 := Fr.snoc X324 N312 gn295
    show Go p e below _ (T324.setTop (mkF m 215 #[.val (.long q0), .second, .val (.int p1), .val (.long q2), .second, .val (.int p3), .val (.long q4), .second, .val (.int p5), .val (.long t0), .second, .val (.long t1), .second, .val (.long t2), .second, .val (.int e0v), .val (.int e1v), .val (.int e2v), .val (.int (3 : Int32)), .val (.int po), .val (.ref b1), .val (.ref b69), .val (.ref b295), .unset] []))
    refine Go.st (fun _ => XS.iload X324.here hx rfl (hb hby at_215) rfl) ?_
    show Go p e below _ (T324.setTop (mkF m 217 #[.val (.long q0), .second, .val (.int p1), .val (.long q2), .second, .val (.int p3), .val (.long q4), .second, .val (.int p5), .val (.long t0), .second, .val (.long t1), .second, .val (.long t2), .second, .val (.int e0v), .val (.int e1v), .val (.int e2v), .val (.int (3 : Int32)), .val (.int po), .val (.ref b1), .val (.ref b69), .val (.ref b295), .unset] [(.int (3 : Int32))]))
    refine Go.st (fun _ => XS.iconst X324.here hx rfl (hb hby at_217)) ?_
    show Go p e below _ (T324.setTop (mkF m 218 #[.val (.long q0), .second, .val (.int p1), .val (.long q2), .second, .val (.int p3), .val (.long q4), .second, .val (.int p5), .val (.long t0), .second, .val (.long t1), .second, .val (.long t2), .second, .val (.int e0v), .val (.int e1v), .val (.int e2v), .val (.int (3 : Int32)), .val (.int po), .val (.ref b1), .val (.ref b69), .val (.ref b295), .unset] [(.int (2 : Int32)), (.int (3 : Int32))]))
    refine Go.st (fun _ => XS.icmpNo X324.here hx rfl (hb hby at_218) rfl (tlt (by decide : (2 : Int32) < (3 : Int32))).2.2.2) ?_
    show Go p e below _ (T324.setTop (mkF m 221 #[.val (.long q0), .second, .val (.int p1), .val (.long q2), .second, .val (.int p3), .val (.long q4), .second, .val (.int p5), .val (.long t0), .second, .val (.long t1), .second, .val (.long t2), .second, .val (.int e0v), .val (.int e1v), .val (.int e2v), .val (.int (3 : Int32)), .val (.int po), .val (.ref b1), .val (.ref b69), .val (.ref b295), .unset] []))
    refine Go.st (fun _ => XS.aload X324.here hx rfl (hb hby at_221) rfl rfl) ?_
    show Go p e below _ (T324.setTop (mkF m 223 #[.val (.long q0), .second, .val (.int p1), .val (.long q2), .second, .val (.int p3), .val (.long q4), .second, .val (.int p5), .val (.long t0), .second, .val (.long t1), .second, .val (.long t2), .second, .val (.int e0v), .val (.int e1v), .val (.int e2v), .val (.int (3 : Int32)), .val (.int po), .val (.ref b1), .val (.ref b69), .val (.ref b295), .unset] [(.ref b295)]))
    refine Go.st (fun _ => XS.iconst X324.here hx rfl (hb hby at_223)) ?_
    show Go p e below _ (T324.setTop (mkF m 224 #[.val (.long q0), .second, .val (.int p1), .val (.long q2), .second, .val (.int p3), .val (.long q4), .second, .val (.int p5), .val (.long t0), .second, .val (.long t1), .second, .val (.long t2), .second, .val (.int e0v), .val (.int e1v), .val (.int e2v), .val (.int (3 : Int32)), .val (.int po), .val (.ref b1), .val (.ref b69), .val (.ref b295), .unset] [(.int (2 : Int32)), (.ref b295)]))
    refine Go.st (fun _ => XS.iload X324.here hx rfl (hb hby at_224) rfl) ?_
    show Go p e below _ (T324.setTop (mkF m 226 #[.val (.long q0), .second, .val (.int p1), .val (.long q2), .second, .val (.int p3), .val (.long q4), .second, .val (.int p5), .val (.long t0), .second, .val (.long t1), .second, .val (.long t2), .second, .val (.int e0v), .val (.int e1v), .val (.int e2v), .val (.int (3 : Int32)), .val (.int po), .val (.ref b1), .val (.ref b69), .val (.ref b295), .unset] [(.int e2v), (.int (2 : Int32)), (.ref b295)]))
    refine Go.st (fun _ => XS.iconst X324.here hx rfl (hb hby at_226)) ?_
    show Go p e below _ (T324.setTop (mkF m 227 #[.val (.long q0), .second, .val (.int p1), .val (.long q2), .second, .val (.int p3), .val (.long q4), .second, .val (.int p5), .val (.long t0), .second, .val (.long t1), .second, .val (.long t2), .second, .val (.int e0v), .val (.int e1v), .val (.int e2v), .val (.int (3 : Int32)), .val (.int po), .val (.ref b1), .val (.ref b69), .val (.ref b295), .unset] [(.int (-1 : Int32)), (.int e2v), (.int (2 : Int32)), (.ref b295)]))
    refine Go.st (fun _ => XS.ixor X324.here hx rfl (hb hby at_227) rfl) ?_
    show Go p e below _ (T324.setTop (mkF m 228 #[.val (.long q0), .second, .val (.int p1), .val (.long q2), .second, .val (.int p3), .val (.long q4), .second, .val (.int p5), .val (.long t0), .second, .val (.long t1), .second, .val (.long t2), .second, .val (.int e0v), .val (.int e1v), .val (.int e2v), .val (.int (3 : Int32)), .val (.int po), .val (.ref b1), .val (.ref b69), .val (.ref b295), .unset] [(.int (e2v ^^^ (-1 : Int32))), (.int (2 : Int32)), (.ref b295)]))
    obtain ⟨cl336, Ar336, qk336, Sz336, Nn336, Ha336, Ga336⟩ := id V_335
    have hin336 : ¬ ((2 : Int32) < 0 ∨ cl336.slots.size ≤ ((2 : Int32) : Int32).toNatClampNeg) := inb_of Sz336 ⟨by decide, by decide⟩
    obtain ⟨T336, h336, X336, e336, W336, st336⟩ := stI X324 hx hZ e324 Ar336 (j := (2 : Int32)) hin336 (g := (mkF m 228 #[.val (.long q0), .second, .val (.int p1), .val (.long q2), .second, .val (.int p3), .val (.long q4), .second, .val (.int p5), .val (.long t0), .second, .val (.long t1), .second, .val (.long t2), .second, .val (.int e0v), .val (.int e1v), .val (.int e2v), .val (.int (3 : Int32)), .val (.int po), .val (.ref b1), .val (.ref b69), .val (.ref b295), .unset] [(.int (e2v ^^^ (-1 : Int32))), (.int (2 : Int32)), (.ref b295)])) rfl rfl (hb hby at_228)
    refine Go.st st336 ?_
    have O337 : Old Z n0 h336 := O325.wr W336 gn295
    have E_338 : Exa Z h336 b1 "com/example/gieres/gieres/model/TupleTable" := E_326.wr W336
    have F339 : Fld Z h336 b1 "com/example/gieres/gieres/model/TupleTable" "word" "[I" (.ref aw) := F327.other W336 (Or.inl ne296)
    have V_340 : Arv Z h336 aw kw .int (3 : Int32) [(.int (0 : Int32)), (.int (0 : Int32)), (.int w2)] (.int (0 : Int32)) := V_328.other W336 ne297
    have F341 : Fld Z h336 b1 "com/example/gieres/gieres/model/TupleTable" "shift" "[I" (.ref as) := F329.other W336 (Or.inl ne296)
    have V_342 : Arv Z h336 as ks .int (3 : Int32) [(.int (0 : Int32)), (.int c0), (.int s2)] (.int (0 : Int32)) := V_330.other W336 ne298
    have F343 : Fld Z h336 b1 "com/example/gieres/gieres/model/TupleTable" "mask" "[J" (.ref am) := F331.other W336 (Or.inl ne296)
    have V_344 : Arv Z h336 am km .long (3 : Int32) [(.long (own_mask c0)), (.long (own_mask c1)), (.long (own_mask c2))] (.long (0 : Int64)) := V_332.other W336 ne299
    have F345 : Fld Z h336 b1 "com/example/gieres/gieres/model/TupleTable" "width" "I" (.int wd) := F333.other W336 (Or.inl ne296)
    have VL346 : LAr Z h336 b69 5 f3 := LAr_other VL334 W336 ne300
    have V_347 : Arv Z h336 b295 k295 .int (3 : Int32) [(.int (e0v ^^^ (-1 : Int32))), (.int (e1v ^^^ (-1 : Int32))), (.int (e2v ^^^ (-1 : Int32)))] (.int (0 : Int32)) := Arv.set Ar336 qk336 Sz336 Nn336 Ha336 Ga336 rfl W336 2 rfl (Nat.le_of_ble_eq_true rfl)
    have N336 := Fr.snoc X336 N324 gn295
    show Go p e below _ (T336.setTop (mkF m 229 #[.val (.long q0), .second, .val (.int p1), .val (.long q2), .second, .val (.int p3), .val (.long q4), .second, .val (.int p5), .val (.long t0), .second, .val (.long t1), .second, .val (.long t2), .second, .val (.int e0v), .val (.int e1v), .val (.int e2v), .val (.int (3 : Int32)), .val (.int po), .val (.ref b1), .val (.ref b69), .val (.ref b295), .unset] []))
    refine Go.st (fun _ => XS.aload X336.here hx rfl (hb hby at_229) rfl rfl) ?_
    show Go p e below _ (T336.setTop (mkF m 231 #[.val (.long q0), .second, .val (.int p1), .val (.long q2), .second, .val (.int p3), .val (.long q4), .second, .val (.int p5), .val (.long t0), .second, .val (.long t1), .second, .val (.long t2), .second, .val (.int e0v), .val (.int e1v), .val (.int e2v), .val (.int (3 : Int32)), .val (.int po), .val (.ref b1), .val (.ref b69), .val (.ref b295), .unset] [(.ref b1)]))
    refine Go.st (fun _ => XS.aload X336.here hx rfl (hb hby at_231) rfl rfl) ?_
    show Go p e below _ (T336.setTop (mkF m 233 #[.val (.long q0), .second, .val (.int p1), .val (.long q2), .second, .val (.int p3), .val (.long q4), .second, .val (.int p5), .val (.long t0), .second, .val (.long t1), .second, .val (.long t2), .second, .val (.int e0v), .val (.int e1v), .val (.int e2v), .val (.int (3 : Int32)), .val (.int po), .val (.ref b1), .val (.ref b69), .val (.ref b295), .unset] [(.ref b69), (.ref b1)]))
    refine Go.st (fun _ => XS.iload X336.here hx rfl (hb hby at_233) rfl) ?_
    show Go p e below _ (T336.setTop (mkF m 235 #[.val (.long q0), .second, .val (.int p1), .val (.long q2), .second, .val (.int p3), .val (.long q4), .second, .val (.int p5), .val (.long t0), .second, .val (.long t1), .second, .val (.long t2), .second, .val (.int e0v), .val (.int e1v), .val (.int e2v), .val (.int (3 : Int32)), .val (.int po), .val (.ref b1), .val (.ref b69), .val (.ref b295), .unset] [(.int po), (.ref b69), (.ref b1)]))
    refine Go.st (fun _ => XS.aload X336.here hx rfl (hb hby at_235) rfl rfl) ?_
    show Go p e below _ (T336.setTop (mkF m 237 #[.val (.long q0), .second, .val (.int p1), .val (.long q2), .second, .val (.int p3), .val (.long q4), .second, .val (.int p5), .val (.long t0), .second, .val (.long t1), .second, .val (.long t2), .second, .val (.int e0v), .val (.int e1v), .val (.int e2v), .val (.int (3 : Int32)), .val (.int po), .val (.ref b1), .val (.ref b69), .val (.ref b295), .unset] [(.ref b295), (.int po), (.ref b69), (.ref b1)]))
    refine goVirt X336 hx hZ (y := (⟨"com/example/gieres/gieres/model/TupleTable", "states", "([JI[I)V"⟩ : MethodName)) (z := (⟨"com/example/gieres/gieres/model/TupleTable", "states", "([JI[I)V"⟩ : MethodName)) hown (hw _ (List.mem_of_getElem? (i := 48) rfl)) (hw _ (List.mem_of_getElem? (i := 49) rfl)) (notFace_of_selects (args := #[]) (mvT hZ (hw _ (List.mem_of_getElem? (i := 51) rfl)))) (hw _ (List.mem_of_getElem? (i := 51) rfl)) (hw _ (List.mem_of_getElem? (i := 50) rfl)) (hw _ (List.mem_of_getElem? (i := 3) rfl)) (hw _ (List.mem_of_getElem? (i := 52) rfl)) (by decide) (a := b1) (argsL := [(.ref b69), (.int po), (.ref b295)]) (rest := []) e336 E_338 (rmT3 l Z a0 hw [] b1 b69 b295 aw as am kw ks km (0 : Int32) (0 : Int32) w2 (0 : Int32) c0 s2 (own_mask c0) (own_mask c1) (own_mask c2) 5 f3 k295 po wd (e0v ^^^ (-1 : Int32)) (e1v ^^^ (-1 : Int32)) (e2v ^^^ (-1 : Int32)) h336 n0 O337 F339 V_340 F341 V_342 F343 V_344 F345 VL346 V_347 gn295 ne296 ne300 ne297 ne298 ne299 hpb.1 (by have := hpb.2; omega) I0.1 I0.2.1 I0.1 I0.2.1 IX.1 IX.2.1 (fun q => ⟨rfl, rfl, LW.2 q⟩)) 0 (by decide) (by decide) (by decide) (by decide) (mkF m 237 #[.val (.long q0), .second, .val (.int p1), .val (.long q2), .second, .val (.int p3), .val (.long q4), .second, .val (.int p5), .val (.long t0), .second, .val (.long t1), .second, .val (.long t2), .second, .val (.int e0v), .val (.int e1v), .val (.int e2v), .val (.int (3 : Int32)), .val (.int po), .val (.ref b1), .val (.ref b69), .val (.ref b295), .unset] [(.ref b295), (.int po), (.ref b69), (.ref b1)]) rfl (by rw [hml]; rfl) (lenOf pd_4 rfl) rfl (hb hby at_237) (Nat.le_of_eq rfl) ?_
    intro v348 T348 L348 X348 hQ348
    obtain ⟨rfl, M348, K348, VI348⟩ := hQ348
    have N348 := Fr.app N336 M348
    have O349 : Old Z n0 T348.heap := O337.keep K348 (allS gn295 all0)
    have E_350 : Exa Z T348.heap b1 "com/example/gieres/gieres/model/TupleTable" := E_338.keep K348
    have F351 : Fld Z T348.heap b1 "com/example/gieres/gieres/model/TupleTable" "word" "[I" (.ref aw) := F339.keep K348 (ninS ne296 nin0)
    have V_352 : Arv Z T348.heap aw kw .int (3 : Int32) [(.int (0 : Int32)), (.int (0 : Int32)), (.int w2)] (.int (0 : Int32)) := V_340.keep K348 (ninS ne297 nin0)
    have F353 : Fld Z T348.heap b1 "com/example/gieres/gieres/model/TupleTable" "shift" "[I" (.ref as) := F341.keep K348 (ninS ne296 nin0)
    have V_354 : Arv Z T348.heap as ks .int (3 : Int32) [(.int (0 : Int32)), (.int c0), (.int s2)] (.int (0 : Int32)) := V_342.keep K348 (ninS ne298 nin0)
    have F355 : Fld Z T348.heap b1 "com/example/gieres/gieres/model/TupleTable" "mask" "[J" (.ref am) := F343.keep K348 (ninS ne296 nin0)
    have V_356 : Arv Z T348.heap am km .long (3 : Int32) [(.long (own_mask c0)), (.long (own_mask c1)), (.long (own_mask c2))] (.long (0 : Int64)) := V_344.keep K348 (ninS ne299 nin0)
    have F357 : Fld Z T348.heap b1 "com/example/gieres/gieres/model/TupleTable" "width" "I" (.int wd) := F345.keep K348 (ninS ne296 nin0)
    have VL358 : LAr Z T348.heap b69 5 f3 := LAr_keep VL346 K348 (ninS ne300 nin0)
    have VJ348 : Arv Z T348.heap b295 k295 .int (3 : Int32) [(.int e0v), (.int e1v), (.int e2v)] (.int (0 : Int32)) := by have q := VI348; rw [EV0, EV1, EV2] at q; exact q
    show Go p e below _ (T348.setTop (mkF m 240 #[.val (.long q0), .second, .val (.int p1), .val (.long q2), .second, .val (.int p3), .val (.long q4), .second, .val (.int p5), .val (.long t0), .second, .val (.long t1), .second, .val (.long t2), .second, .val (.int e0v), .val (.int e1v), .val (.int e2v), .val (.int (3 : Int32)), .val (.int po), .val (.ref b1), .val (.ref b69), .val (.ref b295), .unset] []))
    refine Go.st (fun _ => XS.aload X348.here hx rfl (hb hby at_240) rfl rfl) ?_
    show Go p e below _ (T348.setTop (mkF m 242 #[.val (.long q0), .second, .val (.int p1), .val (.long q2), .second, .val (.int p3), .val (.long q4), .second, .val (.int p5), .val (.long t0), .second, .val (.long t1), .second, .val (.long t2), .second, .val (.int e0v), .val (.int e1v), .val (.int e2v), .val (.int (3 : Int32)), .val (.int po), .val (.ref b1), .val (.ref b69), .val (.ref b295), .unset] [(.ref b295)]))
    obtain ⟨cl359, Ar359, qk359, Sz359, Nn359, Ha359, Ga359⟩ := id VJ348
    refine Go.st (fun _ => X348.arraylength hx Ar359.1 (State.isArrayOf_alike hZ.alike Ar359.2.1) (g := (mkF m 242 #[.val (.long q0), .second, .val (.int p1), .val (.long q2), .second, .val (.int p3), .val (.long q4), .second, .val (.int p5), .val (.long t0), .second, .val (.long t1), .second, .val (.long t2), .second, .val (.int e0v), .val (.int e1v), .val (.int e2v), .val (.int (3 : Int32)), .val (.int po), .val (.ref b1), .val (.ref b69), .val (.ref b295), .unset] [(.ref b295)])) rfl rfl (hb hby at_242) _) ?_
    rw [len_of Sz359 Nn359]
    show Go p e below _ (T348.setTop (mkF m 243 #[.val (.long q0), .second, .val (.int p1), .val (.long q2), .second, .val (.int p3), .val (.long q4), .second, .val (.int p5), .val (.long t0), .second, .val (.long t1), .second, .val (.long t2), .second, .val (.int e0v), .val (.int e1v), .val (.int e2v), .val (.int (3 : Int32)), .val (.int po), .val (.ref b1), .val (.ref b69), .val (.ref b295), .unset] [(.int (3 : Int32))]))
    refine Go.st (fun _ => XS.iload X348.here hx rfl (hb hby at_243) rfl) ?_
    show Go p e below _ (T348.setTop (mkF m 245 #[.val (.long q0), .second, .val (.int p1), .val (.long q2), .second, .val (.int p3), .val (.long q4), .second, .val (.int p5), .val (.long t0), .second, .val (.long t1), .second, .val (.long t2), .second, .val (.int e0v), .val (.int e1v), .val (.int e2v), .val (.int (3 : Int32)), .val (.int po), .val (.ref b1), .val (.ref b69), .val (.ref b295), .unset] [(.int (3 : Int32)), (.int (3 : Int32))]))
    refine Go.st (fun _ => XS.icmpNo X348.here hx rfl (hb hby at_245) rfl (teq (by decide : (3 : Int32) = (3 : Int32))).2) ?_
    show Go p e below _ (T348.setTop (mkF m 248 #[.val (.long q0), .second, .val (.int p1), .val (.long q2), .second, .val (.int p3), .val (.long q4), .second, .val (.int p5), .val (.long t0), .second, .val (.long t1), .second, .val (.long t2), .second, .val (.int e0v), .val (.int e1v), .val (.int e2v), .val (.int (3 : Int32)), .val (.int po), .val (.ref b1), .val (.ref b69), .val (.ref b295), .unset] []))
    refine Go.st (fun _ => XS.iconst X348.here hx rfl (hb hby at_248)) ?_
    show Go p e below _ (T348.setTop (mkF m 249 #[.val (.long q0), .second, .val (.int p1), .val (.long q2), .second, .val (.int p3), .val (.long q4), .second, .val (.int p5), .val (.long t0), .second, .val (.long t1), .second, .val (.long t2), .second, .val (.int e0v), .val (.int e1v), .val (.int e2v), .val (.int (3 : Int32)), .val (.int po), .val (.ref b1), .val (.ref b69), .val (.ref b295), .unset] [(.int (1 : Int32))]))
    refine Go.st (fun _ => XS.goto X348.here hx rfl (pc0 := 249) (pc' := 253) rfl (hb hby at_249) (by decide) (by decide)) ?_
    show Go p e below _ (T348.setTop (mkF m 253 #[.val (.long q0), .second, .val (.int p1), .val (.long q2), .second, .val (.int p3), .val (.long q4), .second, .val (.int p5), .val (.long t0), .second, .val (.long t1), .second, .val (.long t2), .second, .val (.int e0v), .val (.int e1v), .val (.int e2v), .val (.int (3 : Int32)), .val (.int po), .val (.ref b1), .val (.ref b69), .val (.ref b295), .unset] [(.int (1 : Int32))]))
    refine Go.st (fun _ => XS.istore X348.here hx rfl (hb hby at_253) rfl (l' := #[.val (.long q0), .second, .val (.int p1), .val (.long q2), .second, .val (.int p3), .val (.long q4), .second, .val (.int p5), .val (.long t0), .second, .val (.long t1), .second, .val (.long t2), .second, .val (.int e0v), .val (.int e1v), .val (.int e2v), .val (.int (3 : Int32)), .val (.int po), .val (.ref b1), .val (.ref b69), .val (.ref b295), .val (.int (1 : Int32))]) rfl) ?_
    show Go p e below _ (T348.setTop (mkF m 255 #[.val (.long q0), .second, .val (.int p1), .val (.long q2), .second, .val (.int p3), .val (.long q4), .second, .val (.int p5), .val (.long t0), .second, .val (.long t1), .second, .val (.long t2), .second, .val (.int e0v), .val (.int e1v), .val (.int e2v), .val (.int (3 : Int32)), .val (.int po), .val (.ref b1), .val (.ref b69), .val (.ref b295), .val (.int (1 : Int32))] []))
    refine Go.st (fun _ => XS.iload X348.here hx rfl (hb hby at_255) rfl) ?_
    show Go p e below _ (T348.setTop (mkF m 257 #[.val (.long q0), .second, .val (.int p1), .val (.long q2), .second, .val (.int p3), .val (.long q4), .second, .val (.int p5), .val (.long t0), .second, .val (.long t1), .second, .val (.long t2), .second, .val (.int e0v), .val (.int e1v), .val (.int e2v), .val (.int (3 : Int32)), .val (.int po), .val (.ref b1), .val (.ref b69), .val (.ref b295), .val (.int (1 : Int32))] [(.int (3 : Int32))]))
    refine Go.st (fun _ => XS.ifNo X348.here hx rfl (hb hby at_257) rfl ((if0 _ _).trans (tlt (by decide : (0 : Int32) < (3 : Int32))).2.2.2)) ?_
    show Go p e below _ (T348.setTop (mkF m 260 #[.val (.long q0), .second, .val (.int p1), .val (.long q2), .second, .val (.int p3), .val (.long q4), .second, .val (.int p5), .val (.long t0), .second, .val (.long t1), .second, .val (.long t2), .second, .val (.int e0v), .val (.int e1v), .val (.int e2v), .val (.int (3 : Int32)), .val (.int po), .val (.ref b1), .val (.ref b69), .val (.ref b295), .val (.int (1 : Int32))] []))
    refine Go.st (fun _ => XS.iload X348.here hx rfl (hb hby at_260) rfl) ?_
    show Go p e below _ (T348.setTop (mkF m 262 #[.val (.long q0), .second, .val (.int p1), .val (.long q2), .second, .val (.int p3), .val (.long q4), .second, .val (.int p5), .val (.long t0), .second, .val (.long t1), .second, .val (.long t2), .second, .val (.int e0v), .val (.int e1v), .val (.int e2v), .val (.int (3 : Int32)), .val (.int po), .val (.ref b1), .val (.ref b69), .val (.ref b295), .val (.int (1 : Int32))] [(.int (1 : Int32))]))
    refine Go.st (fun _ => XS.ifNo X348.here hx rfl (hb hby at_262) rfl ((if0 _ _).trans (feq (by decide : ¬ ((1 : Int32) = (0 : Int32)))).1)) ?_
    show Go p e below _ (T348.setTop (mkF m 265 #[.val (.long q0), .second, .val (.int p1), .val (.long q2), .second, .val (.int p3), .val (.long q4), .second, .val (.int p5), .val (.long t0), .second, .val (.long t1), .second, .val (.long t2), .second, .val (.int e0v), .val (.int e1v), .val (.int e2v), .val (.int (3 : Int32)), .val (.int po), .val (.ref b1), .val (.ref b69), .val (.ref b295), .val (.int (1 : Int32))] []))
    refine Go.st (fun _ => XS.aload X348.here hx rfl (hb hby at_265) rfl rfl) ?_
    show Go p e below _ (T348.setTop (mkF m 267 #[.val (.long q0), .second, .val (.int p1), .val (.long q2), .second, .val (.int p3), .val (.long q4), .second, .val (.int p5), .val (.long t0), .second, .val (.long t1), .second, .val (.long t2), .second, .val (.int e0v), .val (.int e1v), .val (.int e2v), .val (.int (3 : Int32)), .val (.int po), .val (.ref b1), .val (.ref b69), .val (.ref b295), .val (.int (1 : Int32))] [(.ref b295)]))
    refine Go.st (fun _ => XS.iconst X348.here hx rfl (hb hby at_267)) ?_
    show Go p e below _ (T348.setTop (mkF m 268 #[.val (.long q0), .second, .val (.int p1), .val (.long q2), .second, .val (.int p3), .val (.long q4), .second, .val (.int p5), .val (.long t0), .second, .val (.long t1), .second, .val (.long t2), .second, .val (.int e0v), .val (.int e1v), .val (.int e2v), .val (.int (3 : Int32)), .val (.int po), .val (.ref b1), .val (.ref b69), .val (.ref b295), .val (.int (1 : Int32))] [(.int (0 : Int32)), (.ref b295)]))
    obtain ⟨cl360, Ar360, qk360, Sz360, Nn360, Ha360, Ga360⟩ := id VJ348
    have hin360 : ¬ ((0 : Int32) < 0 ∨ cl360.slots.size ≤ ((0 : Int32) : Int32).toNatClampNeg) := inb_of Sz360 ⟨by decide, by decide⟩
    refine Go.st (fun _ => X348.iaload hx (j := (0 : Int32)) (v := (.int e0v)) Ar360.1 (State.isArrayOf_alike hZ.alike Ar360.2.1) Ar360.2.2 hin360 (Has.at Ha360 hin360 rfl) (g := (mkF m 268 #[.val (.long q0), .second, .val (.int p1), .val (.long q2), .second, .val (.int p3), .val (.long q4), .second, .val (.int p5), .val (.long t0), .second, .val (.long t1), .second, .val (.long t2), .second, .val (.int e0v), .val (.int e1v), .val (.int e2v), .val (.int (3 : Int32)), .val (.int po), .val (.ref b1), .val (.ref b69), .val (.ref b295), .val (.int (1 : Int32))] [(.int (0 : Int32)), (.ref b295)])) rfl rfl (hb hby at_268) _) ?_
    show Go p e below _ (T348.setTop (mkF m 269 #[.val (.long q0), .second, .val (.int p1), .val (.long q2), .second, .val (.int p3), .val (.long q4), .second, .val (.int p5), .val (.long t0), .second, .val (.long t1), .second, .val (.long t2), .second, .val (.int e0v), .val (.int e1v), .val (.int e2v), .val (.int (3 : Int32)), .val (.int po), .val (.ref b1), .val (.ref b69), .val (.ref b295), .val (.int (1 : Int32))] [(.int e0v)]))
    refine Go.st (fun _ => XS.iload X348.here hx rfl (hb hby at_269) rfl) ?_
    show Go p e below _ (T348.setTop (mkF m 271 #[.val (.long q0), .second, .val (.int p1), .val (.long q2), .second, .val (.int p3), .val (.long q4), .second, .val (.int p5), .val (.long t0), .second, .val (.long t1), .second, .val (.long t2), .second, .val (.int e0v), .val (.int e1v), .val (.int e2v), .val (.int (3 : Int32)), .val (.int po), .val (.ref b1), .val (.ref b69), .val (.ref b295), .val (.int (1 : Int32))] [(.int e0v), (.int e0v)]))
    refine Go.st (fun _ => XS.icmpNo X348.here hx rfl (hb hby at_271) rfl (teq (rfl : e0v = e0v)).2) ?_
    show Go p e below _ (T348.setTop (mkF m 274 #[.val (.long q0), .second, .val (.int p1), .val (.long q2), .second, .val (.int p3), .val (.long q4), .second, .val (.int p5), .val (.long t0), .second, .val (.long t1), .second, .val (.long t2), .second, .val (.int e0v), .val (.int e1v), .val (.int e2v), .val (.int (3 : Int32)), .val (.int po), .val (.ref b1), .val (.ref b69), .val (.ref b295), .val (.int (1 : Int32))] []))
    refine Go.st (fun _ => XS.iconst X348.here hx rfl (hb hby at_274)) ?_
    show Go p e below _ (T348.setTop (mkF m 275 #[.val (.long q0), .second, .val (.int p1), .val (.long q2), .second, .val (.int p3), .val (.long q4), .second, .val (.int p5), .val (.long t0), .second, .val (.long t1), .second, .val (.long t2), .second, .val (.int e0v), .val (.int e1v), .val (.int e2v), .val (.int (3 : Int32)), .val (.int po), .val (.ref b1), .val (.ref b69), .val (.ref b295), .val (.int (1 : Int32))] [(.int (1 : Int32))]))
    refine Go.st (fun _ => XS.goto X348.here hx rfl (pc0 := 275) (pc' := 279) rfl (hb hby at_275) (by decide) (by decide)) ?_
    show Go p e below _ (T348.setTop (mkF m 279 #[.val (.long q0), .second, .val (.int p1), .val (.long q2), .second, .val (.int p3), .val (.long q4), .second, .val (.int p5), .val (.long t0), .second, .val (.long t1), .second, .val (.long t2), .second, .val (.int e0v), .val (.int e1v), .val (.int e2v), .val (.int (3 : Int32)), .val (.int po), .val (.ref b1), .val (.ref b69), .val (.ref b295), .val (.int (1 : Int32))] [(.int (1 : Int32))]))
    refine Go.st (fun _ => XS.istore X348.here hx rfl (hb hby at_279) rfl (l' := #[.val (.long q0), .second, .val (.int p1), .val (.long q2), .second, .val (.int p3), .val (.long q4), .second, .val (.int p5), .val (.long t0), .second, .val (.long t1), .second, .val (.long t2), .second, .val (.int e0v), .val (.int e1v), .val (.int e2v), .val (.int (3 : Int32)), .val (.int po), .val (.ref b1), .val (.ref b69), .val (.ref b295), .val (.int (1 : Int32))]) rfl) ?_
    show Go p e below _ (T348.setTop (mkF m 281 #[.val (.long q0), .second, .val (.int p1), .val (.long q2), .second, .val (.int p3), .val (.long q4), .second, .val (.int p5), .val (.long t0), .second, .val (.long t1), .second, .val (.long t2), .second, .val (.int e0v), .val (.int e1v), .val (.int e2v), .val (.int (3 : Int32)), .val (.int po), .val (.ref b1), .val (.ref b69), .val (.ref b295), .val (.int (1 : Int32))] []))
    refine Go.st (fun _ => XS.iload X348.here hx rfl (hb hby at_281) rfl) ?_
    show Go p e below _ (T348.setTop (mkF m 283 #[.val (.long q0), .second, .val (.int p1), .val (.long q2), .second, .val (.int p3), .val (.long q4), .second, .val (.int p5), .val (.long t0), .second, .val (.long t1), .second, .val (.long t2), .second, .val (.int e0v), .val (.int e1v), .val (.int e2v), .val (.int (3 : Int32)), .val (.int po), .val (.ref b1), .val (.ref b69), .val (.ref b295), .val (.int (1 : Int32))] [(.int (3 : Int32))]))
    refine Go.st (fun _ => XS.iconst X348.here hx rfl (hb hby at_283)) ?_
    show Go p e below _ (T348.setTop (mkF m 284 #[.val (.long q0), .second, .val (.int p1), .val (.long q2), .second, .val (.int p3), .val (.long q4), .second, .val (.int p5), .val (.long t0), .second, .val (.long t1), .second, .val (.long t2), .second, .val (.int e0v), .val (.int e1v), .val (.int e2v), .val (.int (3 : Int32)), .val (.int po), .val (.ref b1), .val (.ref b69), .val (.ref b295), .val (.int (1 : Int32))] [(.int (1 : Int32)), (.int (3 : Int32))]))
    refine Go.st (fun _ => XS.icmpNo X348.here hx rfl (hb hby at_284) rfl (tlt (by decide : (1 : Int32) < (3 : Int32))).2.2.2) ?_
    show Go p e below _ (T348.setTop (mkF m 287 #[.val (.long q0), .second, .val (.int p1), .val (.long q2), .second, .val (.int p3), .val (.long q4), .second, .val (.int p5), .val (.long t0), .second, .val (.long t1), .second, .val (.long t2), .second, .val (.int e0v), .val (.int e1v), .val (.int e2v), .val (.int (3 : Int32)), .val (.int po), .val (.ref b1), .val (.ref b69), .val (.ref b295), .val (.int (1 : Int32))] []))
    refine Go.st (fun _ => XS.iload X348.here hx rfl (hb hby at_287) rfl) ?_
    show Go p e below _ (T348.setTop (mkF m 289 #[.val (.long q0), .second, .val (.int p1), .val (.long q2), .second, .val (.int p3), .val (.long q4), .second, .val (.int p5), .val (.long t0), .second, .val (.long t1), .second, .val (.long t2), .second, .val (.int e0v), .val (.int e1v), .val (.int e2v), .val (.int (3 : Int32)), .val (.int po), .val (.ref b1), .val (.ref b69), .val (.ref b295), .val (.int (1 : Int32))] [(.int (1 : Int32))]))
    refine Go.st (fun _ => XS.ifNo X348.here hx rfl (hb hby at_289) rfl ((if0 _ _).trans (feq (by decide : ¬ ((1 : Int32) = (0 : Int32)))).1)) ?_
    show Go p e below _ (T348.setTop (mkF m 292 #[.val (.long q0), .second, .val (.int p1), .val (.long q2), .second, .val (.int p3), .val (.long q4), .second, .val (.int p5), .val (.long t0), .second, .val (.long t1), .second, .val (.long t2), .second, .val (.int e0v), .val (.int e1v), .val (.int e2v), .val (.int (3 : Int32)), .val (.int po), .val (.ref b1), .val (.ref b69), .val (.ref b295), .val (.int (1 : Int32))] []))
    refine Go.st (fun _ => XS.aload X348.here hx rfl (hb hby at_292) rfl rfl) ?_
    show Go p e below _ (T348.setTop (mkF m 294 #[.val (.long q0), .second, .val (.int p1), .val (.long q2), .second, .val (.int p3), .val (.long q4), .second, .val (.int p5), .val (.long t0), .second, .val (.long t1), .second, .val (.long t2), .second, .val (.int e0v), .val (.int e1v), .val (.int e2v), .val (.int (3 : Int32)), .val (.int po), .val (.ref b1), .val (.ref b69), .val (.ref b295), .val (.int (1 : Int32))] [(.ref b295)]))
    refine Go.st (fun _ => XS.iconst X348.here hx rfl (hb hby at_294)) ?_
    show Go p e below _ (T348.setTop (mkF m 295 #[.val (.long q0), .second, .val (.int p1), .val (.long q2), .second, .val (.int p3), .val (.long q4), .second, .val (.int p5), .val (.long t0), .second, .val (.long t1), .second, .val (.long t2), .second, .val (.int e0v), .val (.int e1v), .val (.int e2v), .val (.int (3 : Int32)), .val (.int po), .val (.ref b1), .val (.ref b69), .val (.ref b295), .val (.int (1 : Int32))] [(.int (1 : Int32)), (.ref b295)]))
    obtain ⟨cl361, Ar361, qk361, Sz361, Nn361, Ha361, Ga361⟩ := id VJ348
    have hin361 : ¬ ((1 : Int32) < 0 ∨ cl361.slots.size ≤ ((1 : Int32) : Int32).toNatClampNeg) := inb_of Sz361 ⟨by decide, by decide⟩
    refine Go.st (fun _ => X348.iaload hx (j := (1 : Int32)) (v := (.int e1v)) Ar361.1 (State.isArrayOf_alike hZ.alike Ar361.2.1) Ar361.2.2 hin361 (Has.at Ha361 hin361 rfl) (g := (mkF m 295 #[.val (.long q0), .second, .val (.int p1), .val (.long q2), .second, .val (.int p3), .val (.long q4), .second, .val (.int p5), .val (.long t0), .second, .val (.long t1), .second, .val (.long t2), .second, .val (.int e0v), .val (.int e1v), .val (.int e2v), .val (.int (3 : Int32)), .val (.int po), .val (.ref b1), .val (.ref b69), .val (.ref b295), .val (.int (1 : Int32))] [(.int (1 : Int32)), (.ref b295)])) rfl rfl (hb hby at_295) _) ?_
    show Go p e below _ (T348.setTop (mkF m 296 #[.val (.long q0), .second, .val (.int p1), .val (.long q2), .second, .val (.int p3), .val (.long q4), .second, .val (.int p5), .val (.long t0), .second, .val (.long t1), .second, .val (.long t2), .second, .val (.int e0v), .val (.int e1v), .val (.int e2v), .val (.int (3 : Int32)), .val (.int po), .val (.ref b1), .val (.ref b69), .val (.ref b295), .val (.int (1 : Int32))] [(.int e1v)]))
    refine Go.st (fun _ => XS.iload X348.here hx rfl (hb hby at_296) rfl) ?_
    show Go p e below _ (T348.setTop (mkF m 298 #[.val (.long q0), .second, .val (.int p1), .val (.long q2), .second, .val (.int p3), .val (.long q4), .second, .val (.int p5), .val (.long t0), .second, .val (.long t1), .second, .val (.long t2), .second, .val (.int e0v), .val (.int e1v), .val (.int e2v), .val (.int (3 : Int32)), .val (.int po), .val (.ref b1), .val (.ref b69), .val (.ref b295), .val (.int (1 : Int32))] [(.int e1v), (.int e1v)]))
    refine Go.st (fun _ => XS.icmpNo X348.here hx rfl (hb hby at_298) rfl (teq (rfl : e1v = e1v)).2) ?_
    show Go p e below _ (T348.setTop (mkF m 301 #[.val (.long q0), .second, .val (.int p1), .val (.long q2), .second, .val (.int p3), .val (.long q4), .second, .val (.int p5), .val (.long t0), .second, .val (.long t1), .second, .val (.long t2), .second, .val (.int e0v), .val (.int e1v), .val (.int e2v), .val (.int (3 : Int32)), .val (.int po), .val (.ref b1), .val (.ref b69), .val (.ref b295), .val (.int (1 : Int32))] []))
    refine Go.st (fun _ => XS.iconst X348.here hx rfl (hb hby at_301)) ?_
    show Go p e below _ (T348.setTop (mkF m 302 #[.val (.long q0), .second, .val (.int p1), .val (.long q2), .second, .val (.int p3), .val (.long q4), .second, .val (.int p5), .val (.long t0), .second, .val (.long t1), .second, .val (.long t2), .second, .val (.int e0v), .val (.int e1v), .val (.int e2v), .val (.int (3 : Int32)), .val (.int po), .val (.ref b1), .val (.ref b69), .val (.ref b295), .val (.int (1 : Int32))] [(.int (1 : Int32))]))
    refine Go.st (fun _ => XS.goto X348.here hx rfl (pc0 := 302) (pc' := 306) rfl (hb hby at_302) (by decide) (by decide)) ?_
    show Go p e below _ (T348.setTop (mkF m 306 #[.val (.long q0), .second, .val (.int p1), .val (.long q2), .second, .val (.int p3), .val (.long q4), .second, .val (.int p5), .val (.long t0), .second, .val (.long t1), .second, .val (.long t2), .second, .val (.int e0v), .val (.int e1v), .val (.int e2v), .val (.int (3 : Int32)), .val (.int po), .val (.ref b1), .val (.ref b69), .val (.ref b295), .val (.int (1 : Int32))] [(.int (1 : Int32))]))
    refine Go.st (fun _ => XS.istore X348.here hx rfl (hb hby at_306) rfl (l' := #[.val (.long q0), .second, .val (.int p1), .val (.long q2), .second, .val (.int p3), .val (.long q4), .second, .val (.int p5), .val (.long t0), .second, .val (.long t1), .second, .val (.long t2), .second, .val (.int e0v), .val (.int e1v), .val (.int e2v), .val (.int (3 : Int32)), .val (.int po), .val (.ref b1), .val (.ref b69), .val (.ref b295), .val (.int (1 : Int32))]) rfl) ?_
    show Go p e below _ (T348.setTop (mkF m 308 #[.val (.long q0), .second, .val (.int p1), .val (.long q2), .second, .val (.int p3), .val (.long q4), .second, .val (.int p5), .val (.long t0), .second, .val (.long t1), .second, .val (.long t2), .second, .val (.int e0v), .val (.int e1v), .val (.int e2v), .val (.int (3 : Int32)), .val (.int po), .val (.ref b1), .val (.ref b69), .val (.ref b295), .val (.int (1 : Int32))] []))
    refine Go.st (fun _ => XS.iload X348.here hx rfl (hb hby at_308) rfl) ?_
    show Go p e below _ (T348.setTop (mkF m 310 #[.val (.long q0), .second, .val (.int p1), .val (.long q2), .second, .val (.int p3), .val (.long q4), .second, .val (.int p5), .val (.long t0), .second, .val (.long t1), .second, .val (.long t2), .second, .val (.int e0v), .val (.int e1v), .val (.int e2v), .val (.int (3 : Int32)), .val (.int po), .val (.ref b1), .val (.ref b69), .val (.ref b295), .val (.int (1 : Int32))] [(.int (3 : Int32))]))
    refine Go.st (fun _ => XS.iconst X348.here hx rfl (hb hby at_310)) ?_
    show Go p e below _ (T348.setTop (mkF m 311 #[.val (.long q0), .second, .val (.int p1), .val (.long q2), .second, .val (.int p3), .val (.long q4), .second, .val (.int p5), .val (.long t0), .second, .val (.long t1), .second, .val (.long t2), .second, .val (.int e0v), .val (.int e1v), .val (.int e2v), .val (.int (3 : Int32)), .val (.int po), .val (.ref b1), .val (.ref b69), .val (.ref b295), .val (.int (1 : Int32))] [(.int (2 : Int32)), (.int (3 : Int32))]))
    refine Go.st (fun _ => XS.icmpNo X348.here hx rfl (hb hby at_311) rfl (tlt (by decide : (2 : Int32) < (3 : Int32))).2.2.2) ?_
    show Go p e below _ (T348.setTop (mkF m 314 #[.val (.long q0), .second, .val (.int p1), .val (.long q2), .second, .val (.int p3), .val (.long q4), .second, .val (.int p5), .val (.long t0), .second, .val (.long t1), .second, .val (.long t2), .second, .val (.int e0v), .val (.int e1v), .val (.int e2v), .val (.int (3 : Int32)), .val (.int po), .val (.ref b1), .val (.ref b69), .val (.ref b295), .val (.int (1 : Int32))] []))
    refine Go.st (fun _ => XS.iload X348.here hx rfl (hb hby at_314) rfl) ?_
    show Go p e below _ (T348.setTop (mkF m 316 #[.val (.long q0), .second, .val (.int p1), .val (.long q2), .second, .val (.int p3), .val (.long q4), .second, .val (.int p5), .val (.long t0), .second, .val (.long t1), .second, .val (.long t2), .second, .val (.int e0v), .val (.int e1v), .val (.int e2v), .val (.int (3 : Int32)), .val (.int po), .val (.ref b1), .val (.ref b69), .val (.ref b295), .val (.int (1 : Int32))] [(.int (1 : Int32))]))
    refine Go.st (fun _ => XS.ifNo X348.here hx rfl (hb hby at_316) rfl ((if0 _ _).trans (feq (by decide : ¬ ((1 : Int32) = (0 : Int32)))).1)) ?_
    show Go p e below _ (T348.setTop (mkF m 319 #[.val (.long q0), .second, .val (.int p1), .val (.long q2), .second, .val (.int p3), .val (.long q4), .second, .val (.int p5), .val (.long t0), .second, .val (.long t1), .second, .val (.long t2), .second, .val (.int e0v), .val (.int e1v), .val (.int e2v), .val (.int (3 : Int32)), .val (.int po), .val (.ref b1), .val (.ref b69), .val (.ref b295), .val (.int (1 : Int32))] []))
    refine Go.st (fun _ => XS.aload X348.here hx rfl (hb hby at_319) rfl rfl) ?_
    show Go p e below _ (T348.setTop (mkF m 321 #[.val (.long q0), .second, .val (.int p1), .val (.long q2), .second, .val (.int p3), .val (.long q4), .second, .val (.int p5), .val (.long t0), .second, .val (.long t1), .second, .val (.long t2), .second, .val (.int e0v), .val (.int e1v), .val (.int e2v), .val (.int (3 : Int32)), .val (.int po), .val (.ref b1), .val (.ref b69), .val (.ref b295), .val (.int (1 : Int32))] [(.ref b295)]))
    refine Go.st (fun _ => XS.iconst X348.here hx rfl (hb hby at_321)) ?_
    show Go p e below _ (T348.setTop (mkF m 322 #[.val (.long q0), .second, .val (.int p1), .val (.long q2), .second, .val (.int p3), .val (.long q4), .second, .val (.int p5), .val (.long t0), .second, .val (.long t1), .second, .val (.long t2), .second, .val (.int e0v), .val (.int e1v), .val (.int e2v), .val (.int (3 : Int32)), .val (.int po), .val (.ref b1), .val (.ref b69), .val (.ref b295), .val (.int (1 : Int32))] [(.int (2 : Int32)), (.ref b295)]))
    obtain ⟨cl362, Ar362, qk362, Sz362, Nn362, Ha362, Ga362⟩ := id VJ348
    have hin362 : ¬ ((2 : Int32) < 0 ∨ cl362.slots.size ≤ ((2 : Int32) : Int32).toNatClampNeg) := inb_of Sz362 ⟨by decide, by decide⟩
    refine Go.st (fun _ => X348.iaload hx (j := (2 : Int32)) (v := (.int e2v)) Ar362.1 (State.isArrayOf_alike hZ.alike Ar362.2.1) Ar362.2.2 hin362 (Has.at Ha362 hin362 rfl) (g := (mkF m 322 #[.val (.long q0), .second, .val (.int p1), .val (.long q2), .second, .val (.int p3), .val (.long q4), .second, .val (.int p5), .val (.long t0), .second, .val (.long t1), .second, .val (.long t2), .second, .val (.int e0v), .val (.int e1v), .val (.int e2v), .val (.int (3 : Int32)), .val (.int po), .val (.ref b1), .val (.ref b69), .val (.ref b295), .val (.int (1 : Int32))] [(.int (2 : Int32)), (.ref b295)])) rfl rfl (hb hby at_322) _) ?_
    show Go p e below _ (T348.setTop (mkF m 323 #[.val (.long q0), .second, .val (.int p1), .val (.long q2), .second, .val (.int p3), .val (.long q4), .second, .val (.int p5), .val (.long t0), .second, .val (.long t1), .second, .val (.long t2), .second, .val (.int e0v), .val (.int e1v), .val (.int e2v), .val (.int (3 : Int32)), .val (.int po), .val (.ref b1), .val (.ref b69), .val (.ref b295), .val (.int (1 : Int32))] [(.int e2v)]))
    refine Go.st (fun _ => XS.iload X348.here hx rfl (hb hby at_323) rfl) ?_
    show Go p e below _ (T348.setTop (mkF m 325 #[.val (.long q0), .second, .val (.int p1), .val (.long q2), .second, .val (.int p3), .val (.long q4), .second, .val (.int p5), .val (.long t0), .second, .val (.long t1), .second, .val (.long t2), .second, .val (.int e0v), .val (.int e1v), .val (.int e2v), .val (.int (3 : Int32)), .val (.int po), .val (.ref b1), .val (.ref b69), .val (.ref b295), .val (.int (1 : Int32))] [(.int e2v), (.int e2v)]))
    refine Go.st (fun _ => XS.icmpNo X348.here hx rfl (hb hby at_325) rfl (teq (rfl : e2v = e2v)).2) ?_
    show Go p e below _ (T348.setTop (mkF m 328 #[.val (.long q0), .second, .val (.int p1), .val (.long q2), .second, .val (.int p3), .val (.long q4), .second, .val (.int p5), .val (.long t0), .second, .val (.long t1), .second, .val (.long t2), .second, .val (.int e0v), .val (.int e1v), .val (.int e2v), .val (.int (3 : Int32)), .val (.int po), .val (.ref b1), .val (.ref b69), .val (.ref b295), .val (.int (1 : Int32))] []))
    refine Go.st (fun _ => XS.iconst X348.here hx rfl (hb hby at_328)) ?_
    show Go p e below _ (T348.setTop (mkF m 329 #[.val (.long q0), .second, .val (.int p1), .val (.long q2), .second, .val (.int p3), .val (.long q4), .second, .val (.int p5), .val (.long t0), .second, .val (.long t1), .second, .val (.long t2), .second, .val (.int e0v), .val (.int e1v), .val (.int e2v), .val (.int (3 : Int32)), .val (.int po), .val (.ref b1), .val (.ref b69), .val (.ref b295), .val (.int (1 : Int32))] [(.int (1 : Int32))]))
    refine Go.st (fun _ => XS.goto X348.here hx rfl (pc0 := 329) (pc' := 333) rfl (hb hby at_329) (by decide) (by decide)) ?_
    show Go p e below _ (T348.setTop (mkF m 333 #[.val (.long q0), .second, .val (.int p1), .val (.long q2), .second, .val (.int p3), .val (.long q4), .second, .val (.int p5), .val (.long t0), .second, .val (.long t1), .second, .val (.long t2), .second, .val (.int e0v), .val (.int e1v), .val (.int e2v), .val (.int (3 : Int32)), .val (.int po), .val (.ref b1), .val (.ref b69), .val (.ref b295), .val (.int (1 : Int32))] [(.int (1 : Int32))]))
    refine Go.st (fun _ => XS.istore X348.here hx rfl (hb hby at_333) rfl (l' := #[.val (.long q0), .second, .val (.int p1), .val (.long q2), .second, .val (.int p3), .val (.long q4), .second, .val (.int p5), .val (.long t0), .second, .val (.long t1), .second, .val (.long t2), .second, .val (.int e0v), .val (.int e1v), .val (.int e2v), .val (.int (3 : Int32)), .val (.int po), .val (.ref b1), .val (.ref b69), .val (.ref b295), .val (.int (1 : Int32))]) rfl) ?_
    show Go p e below _ (T348.setTop (mkF m 335 #[.val (.long q0), .second, .val (.int p1), .val (.long q2), .second, .val (.int p3), .val (.long q4), .second, .val (.int p5), .val (.long t0), .second, .val (.long t1), .second, .val (.long t2), .second, .val (.int e0v), .val (.int e1v), .val (.int e2v), .val (.int (3 : Int32)), .val (.int po), .val (.ref b1), .val (.ref b69), .val (.ref b295), .val (.int (1 : Int32))] []))
    refine Go.st (fun _ => XS.iload X348.here hx rfl (hb hby at_335) rfl) ?_
    show Go p e below _ (T348.setTop (mkF m 337 #[.val (.long q0), .second, .val (.int p1), .val (.long q2), .second, .val (.int p3), .val (.long q4), .second, .val (.int p5), .val (.long t0), .second, .val (.long t1), .second, .val (.long t2), .second, .val (.int e0v), .val (.int e1v), .val (.int e2v), .val (.int (3 : Int32)), .val (.int po), .val (.ref b1), .val (.ref b69), .val (.ref b295), .val (.int (1 : Int32))] [(.int (1 : Int32))]))
    exact goRetN X348 hx hlk hret (t := .boolean) (by simp) (w := (1 : Int32)) (by decide) rfl (hb hby at_337) (by decide) (by decide) ⟨rfl, N348⟩
set_option maxRecDepth 65536 in
set_option maxHeartbeats 40000000 in
theorem comes_1 {Post : Tables → Env → Array Value → State → Outcome → State → Prop} (hpost : ∀ tb e args s v u, (limb_1_1.after args s (.returned v) u = true ∧ limb_1_2.after args s (.returned v) u = true ∧ True) → FrameEnd s (.returned v) u (Jvm.fieldLocs frame_1_writes args s ++ Jvm.arrayLocs frame_1_arrays args s ++ Jvm.staticLocs frame_1_statics s) 32 256 → Post tb e args s (.returned v) u) :
    ArmFor flags0 classFile x code maxLocals ret World_1 tables_1 room_1 Calls_1 rest_1 Pre_1 Post := by
  intro l hfl _ _ p e ha hc hk s m args below hf hA hF happ hP
  obtain ⟨hcalls, hrest, hpre⟩ := hP
  obtain ⟨-, -, -, hnamed, -, -, -, hat⟩ := (Spec.applies_iff hf).mp happ
  obtain ⟨hg, hn⟩ := and_e (Cond.before_iff.mp (show (Jvm.Cond.and given_1 narrow_1).before args s = true from hpre))
  obtain ⟨g1, g2⟩ := and_e hg
  obtain ⟨g3, g4⟩ := and_e g2
  obtain ⟨g5, g6⟩ := and_e g4
  obtain ⟨g7, g8⟩ := and_e g6
  obtain ⟨g9, g10⟩ := and_e g8
  obtain ⟨g11, g12⟩ := and_e g10
  obtain ⟨w0, w1, w2, w3, w4, w5, rfl⟩ : ∃ w0 w1 w2 w3 w4 w5 : Value, args = #[w0, w1, w2, w3, w4, w5] := by
    have hs : args.size = 6 := by simpa [Cond.value, given_1] using g1
    obtain ⟨L⟩ := args
    match L, hs with
    | [w0, w1, w2, w3, w4, w5], _ => exact ⟨w0, w1, w2, w3, w4, w5, rfl⟩
  have hw := fun d (hd : d ∈ tables_1) => atoms_spec (ws := Jvm.Cond.code x code maxLocals ret :: tables_1) hat d (List.mem_cons_of_mem _ hd)
  have hfit : Fit s := fun {y c} hc i hi => by
    obtain ⟨ha, rfl⟩ := Array.getElem?_eq_some_iff.mp hc
    have q := List.all_eq_true.mp ((Array.all_eq_true_iff_forall_mem.mp hF) _ (Array.getElem_mem ha)) i (List.mem_range.mpr hi)
    simpa [Array.getElem?_eq_getElem hi] using q
  obtain ⟨i0, ei0⟩ := isL_v g3
  obtain rfl : w0 = (.long i0) := Option.some.inj ei0
  obtain ⟨i1, ei1⟩ := is_v g5
  obtain rfl : w1 = (.int i1) := Option.some.inj ei1
  obtain ⟨i2, ei2⟩ := isL_v g7
  obtain rfl : w2 = (.long i2) := Option.some.inj ei2
  obtain ⟨i3, ei3⟩ := is_v g9
  obtain rfl : w3 = (.int i3) := Option.some.inj ei3
  obtain ⟨i4, ei4⟩ := isL_v g11
  obtain rfl : w4 = (.long i4) := Option.some.inj ei4
  obtain ⟨i5, ei5⟩ := is_v g12
  obtain rfl : w5 = (.int i5) := Option.some.inj ei5
  obtain ⟨n, o, h1, h2, h3, _, L, rfl, ⟨rfl, N⟩, hq⟩ := rm0 l s _ hw tables_1 i0 i1 i2 i3 i4 i5 s.heap s.heap.size (Old.start s) p e ha hc hk s m _ below hf ((Spec.applies_iff_loose hf).mp happ).1 ⟨rfl, State.Warmed39.refl s, rfl⟩ trivial
  refine ⟨n, _, h1, h2, h3, hpost _ _ _ _ _ _ ⟨Cond.after_iff.mpr rfl, Cond.after_iff.mpr (eq_i res_at (Term.int_eval (1)) rfl), trivial⟩ ⟨hq.1, hq.2.1, (hq.2.2.sift fun y hy => Or.inr (N y hy)).mono (by decide) (by decide)⟩⟩
theorem main_1_1 : Claimed_1_1 := comes_1 fun _ _ _ _ _ _ h hF => ⟨h.1, hF⟩
theorem main_1_2 : Claimed_1_2 := comes_1 fun _ _ _ _ _ _ h hF => ⟨h.2.1, hF⟩
end Jvm.Pilot.@@N@@
namespace Jvm.Pilot.@@N@@
open Jvm Jvm.ClassFile Sem Op Lib Jvm.Free Jvm.Stand Jvm.Pilot.@@N@@.Jvm.D
/-! MADE BY PROGRAM (witnessworld.py) out of the Statement's table words and the real class files: 17 classes; the members and pool entries that the words name. The judged class is class 1, her method 1. -/
namespace start1
open Jvm.ClassFile
def u (s : String) : CpInfo := .utf8 (stringToUtf16 s)
/-- a pool by its gaps: so many unusable entries, then the entry; so many at the end -/
def gap : Nat → List CpInfo → List CpInfo
  | 0, r => r
  | n + 1, r => .unusable :: gap n r
def poolList (es : List (Nat × CpInfo)) (last : Nat) : List CpInfo := es.foldr (fun e r => gap e.1 (e.2 :: r)) (gap last [])
def pool (es : List (Nat × CpInfo)) (last : Nat) : Array CpInfo := ⟨poolList es last⟩
def fileOf (pool : Array CpInfo) (this : Nat) (attrs : Array Attribute := #[]) (ms : Array MethodInfo := #[]) (fl : Nat := 33) (sup : Nat := 0) (ifs : Array Nat := #[]) (fds : Array FieldInfo := #[]) : ClassFile where
  minorVersion := 0
  majorVersion := 65
  constantPool := pool
  accessFlags := fl
  thisClass := this
  superClass := sup
  interfaces := ifs
  fields := fds
  methods := ms
  attributes := attrs
def plain (name : String) (sup : Option ClassId) : Class where
  name := name
  kind := .ordinary
  loader := none
  accessFlags := 33
  super := sup
  interfaces := #[]
  cf := none
  fields := #[]
  methods := #[]
  instanceTypes := #[]
  staticTypes := #[]
  resolved := #[]
  callSites := []
  init := .initialized
  statics := none
  mirror := none

def pool0 : Array CpInfo := pool [(5, u "<init>"), (0, u "()V"), (1, .class_ 10), (1, u "java/lang/Object")] 113

def k0c0 : Code := { maxStack := 0, maxLocals := 1, code := object_method_1_code, exceptionTable := #[], attributes := #[] }
def k0m0 : Method := { name := "<init>", desc := "()V", sig := { parameters := [], returnType := none }, accessFlags := 1, code := some k0c0 }
/-- java/lang/Object -/
def k0 : Class := { plain "java/lang/Object" none with
  accessFlags := 33
  interfaces := #[]
  cf := some (fileOf pool0 8 #[] #[{ accessFlags := 1, nameIndex := 5, descriptorIndex := 6, attributes := #[] }] 33 0 #[] #[])
  fields := #[]
  methods := #[k0m0]
  instanceTypes := #[]
  staticTypes := #[]
  resolved := Array.replicate 124 none
  statics := none }

def pool1 : Array CpInfo := pool [(2, .class_ 4), (1, u "java/lang/Object"), (0, u "<init>"), (0, u "()V"), (0, .long 4294967295), (1, .class_ 10), (0, u "com/example/gieres/gieres/model/TupleTable"), (0, .methodref 9 12), (0, .nameAndType 5 13), (0, u "([J)V"), (0, .long 18446744073709551615), (1, .methodref 9 17), (0, .nameAndType 18 19), (0, u "setState"), (0, u "([JIII)V"), (0, .methodref 9 21), (0, .nameAndType 22 23), (0, u "states"), (0, u "([JI[I)V"), (0, .class_ 25), (0, u "com/example/gieres/gieres/model/TupleTableStatesPinLaw"), (2, u "law"), (0, u "(JIJIJI)Z")] 7

def k1m0 : Method := { name := "<init>", desc := "()V", sig := { parameters := [], returnType := none }, accessFlags := 1, code := none }
def k1c1 : Code := { maxStack := 7, maxLocals := 24, code := code, exceptionTable := #[], attributes := #[] }
def k1m1 : Method := { name := "law", desc := "(JIJIJI)Z", sig := { parameters := [.long, .int, .long, .int, .long, .int], returnType := some .boolean }, accessFlags := 9, code := some k1c1 }
/-- com/example/gieres/gieres/model/TupleTableStatesPinLaw -/
def k1 : Class := { plain "com/example/gieres/gieres/model/TupleTableStatesPinLaw" (some 0) with
  accessFlags := 49
  interfaces := #[]
  cf := some (fileOf pool1 24 #[] #[{ accessFlags := 1, nameIndex := 5, descriptorIndex := 6, attributes := #[] }, { accessFlags := 9, nameIndex := 28, descriptorIndex := 29, attributes := #[] }] 49 2 #[] #[])
  fields := #[]
  methods := #[k1m0, k1m1]
  instanceTypes := #[]
  staticTypes := #[]
  resolved := Array.replicate 37 none
  statics := none }

def pool2 : Array CpInfo := pool [(1, .class_ 2), (0, u "com/example/gieres/gieres/model/TupleTable"), (0, .methodref 4 5), (0, .class_ 6), (0, .nameAndType 7 8), (0, u "java/lang/Object"), (0, u "<init>"), (0, u "()V"), (0, .class_ 10), (0, u "[J"), (0, .fieldref 1 12), (0, .nameAndType 13 14), (0, u "pages"), (0, u "[[J"), (0, .fieldref 1 16), (0, .nameAndType 17 18), (0, u "slotBits"), (0, u "I"), (0, .fieldref 1 20), (0, .nameAndType 21 22), (0, u "slots"), (0, u "[I"), (0, .fieldref 1 24), (0, .nameAndType 25 10), (0, u "hashes"), (0, .fieldref 1 27), (0, .nameAndType 28 22), (0, u "found"), (0, .fieldref 1 30), (0, .nameAndType 31 22), (0, u "word"), (0, .fieldref 1 33), (0, .nameAndType 34 22), (0, u "shift"), (0, .fieldref 1 36), (0, .nameAndType 37 10), (0, u "mask"), (0, .class_ 39), (0, u "java/lang/Long"), (0, .methodref 38 41), (0, .nameAndType 42 43), (0, u "numberOfLeadingZeros"), (0, u "(J)I"), (0, .fieldref 1 45), (0, .nameAndType 46 18), (0, u "width"), (2, u "size"), (6, .long 18446744073709551615), (3, u "states"), (0, u "([JI[I)V"), (26, u "prefetched"), (0, u "J"), (29, u "SPREAD"), (1, u "PAGE_BITS"), (1, u "PAGE"), (1, u "([J)V"), (8, u "setState"), (0, u "([JIII)V")] 8

def k2c0 : Code := { maxStack := 6, maxLocals := 6, code := prog_137_method_1_code, exceptionTable := #[], attributes := #[] }
def k2m0 : Method := { name := "<init>", desc := "([J)V", sig := { parameters := [(.array .long)], returnType := none }, accessFlags := 0, code := some k2c0 }
def k2c1 : Code := { maxStack := 8, maxLocals := 8, code := prog_137_method_6_code, exceptionTable := #[], attributes := #[] }
def k2m1 : Method := { name := "setState", desc := "([JIII)V", sig := { parameters := [(.array .long), .int, .int, .int], returnType := none }, accessFlags := 0, code := some k2c1 }
def k2c2 : Code := { maxStack := 6, maxLocals := 7, code := prog_137_method_8_code, exceptionTable := #[], attributes := #[] }
def k2m2 : Method := { name := "states", desc := "([JI[I)V", sig := { parameters := [(.array .long), .int, (.array .int)], returnType := none }, accessFlags := 0, code := some k2c2 }
/-- com/example/gieres/gieres/model/TupleTable -/
def k2 : Class := { plain "com/example/gieres/gieres/model/TupleTable" (some 0) with
  accessFlags := 48
  interfaces := #[]
  cf := some (fileOf pool2 1 #[] #[{ accessFlags := 0, nameIndex := 7, descriptorIndex := 125, attributes := #[] }, { accessFlags := 0, nameIndex := 134, descriptorIndex := 135, attributes := #[] }, { accessFlags := 0, nameIndex := 60, descriptorIndex := 61, attributes := #[] }] 48 4 #[] #[{ accessFlags := 26, nameIndex := 119, descriptorIndex := 89, attributes := #[] }, { accessFlags := 26, nameIndex := 121, descriptorIndex := 18, attributes := #[] }, { accessFlags := 26, nameIndex := 123, descriptorIndex := 18, attributes := #[] }, { accessFlags := 18, nameIndex := 31, descriptorIndex := 22, attributes := #[] }, { accessFlags := 18, nameIndex := 34, descriptorIndex := 22, attributes := #[] }, { accessFlags := 18, nameIndex := 37, descriptorIndex := 10, attributes := #[] }, { accessFlags := 18, nameIndex := 46, descriptorIndex := 18, attributes := #[] }, { accessFlags := 2, nameIndex := 13, descriptorIndex := 14, attributes := #[] }, { accessFlags := 2, nameIndex := 49, descriptorIndex := 18, attributes := #[] }, { accessFlags := 2, nameIndex := 17, descriptorIndex := 18, attributes := #[] }, { accessFlags := 2, nameIndex := 21, descriptorIndex := 22, attributes := #[] }, { accessFlags := 2, nameIndex := 25, descriptorIndex := 10, attributes := #[] }, { accessFlags := 2, nameIndex := 28, descriptorIndex := 22, attributes := #[] }, { accessFlags := 2, nameIndex := 88, descriptorIndex := 89, attributes := #[] }])
  fields := #[{ name := "SPREAD", type := .long, accessFlags := 26, slot := 0, constantValue := 0 }, { name := "PAGE_BITS", type := .int, accessFlags := 26, slot := 1, constantValue := 0 }, { name := "PAGE", type := .int, accessFlags := 26, slot := 2, constantValue := 0 }, { name := "word", type := (.array .int), accessFlags := 18, slot := 0, constantValue := 0 }, { name := "shift", type := (.array .int), accessFlags := 18, slot := 1, constantValue := 0 }, { name := "mask", type := (.array .long), accessFlags := 18, slot := 2, constantValue := 0 }, { name := "width", type := .int, accessFlags := 18, slot := 3, constantValue := 0 }, { name := "pages", type := (.array (.array .long)), accessFlags := 2, slot := 4, constantValue := 0 }, { name := "size", type := .int, accessFlags := 2, slot := 5, constantValue := 0 }, { name := "slotBits", type := .int, accessFlags := 2, slot := 6, constantValue := 0 }, { name := "slots", type := (.array .int), accessFlags := 2, slot := 7, constantValue := 0 }, { name := "hashes", type := (.array .long), accessFlags := 2, slot := 8, constantValue := 0 }, { name := "found", type := (.array .int), accessFlags := 2, slot := 9, constantValue := 0 }, { name := "prefetched", type := .long, accessFlags := 2, slot := 10, constantValue := 0 }]
  methods := #[k2m0, k2m1, k2m2]
  instanceTypes := #[(.array .int), (.array .int), (.array .long), .int, (.array (.array .long)), .int, .int, (.array .int), (.array .long), (.array .int), .long]
  staticTypes := #[.long, .int, .int]
  resolved := Array.replicate 144 none
  statics := none }

def pool3 : Array CpInfo := pool [(1, .class_ 2), (0, u "java/io/Serializable"), (0, .class_ 4), (0, u "java/lang/Object")] 2

/-- java/io/Serializable -/
def k3 : Class := { plain "java/io/Serializable" (some 0) with
  accessFlags := 1537
  interfaces := #[]
  cf := some (fileOf pool3 1 #[] #[] 1537 3 #[] #[])
  fields := #[]
  methods := #[]
  instanceTypes := #[]
  staticTypes := #[]
  resolved := Array.replicate 7 none
  statics := none }

def pool4 : Array CpInfo := pool [(2, .class_ 4), (1, u "java/lang/Object"), (0, u "<init>"), (0, u "()V"), (1, .class_ 10), (1, u "java/lang/Number"), (2, .class_ 14), (0, u "java/io/Serializable"), (0, u "serialVersionUID"), (0, u "J")] 20

def k4m0 : Method := { name := "<init>", desc := "()V", sig := { parameters := [], returnType := none }, accessFlags := 1, code := none }
/-- java/lang/Number -/
def k4 : Class := { plain "java/lang/Number" (some 0) with
  accessFlags := 1057
  interfaces := #[3]
  cf := some (fileOf pool4 8 #[] #[{ accessFlags := 1, nameIndex := 5, descriptorIndex := 6, attributes := #[] }] 1057 2 #[13] #[{ accessFlags := 26, nameIndex := 15, descriptorIndex := 16, attributes := #[] }])
  fields := #[{ name := "serialVersionUID", type := .long, accessFlags := 26, slot := 0, constantValue := 0 }]
  methods := #[k4m0]
  instanceTypes := #[]
  staticTypes := #[.long]
  resolved := Array.replicate 37 none
  statics := none }

def pool5 : Array CpInfo := pool [(1, .class_ 2), (0, u "java/lang/Comparable"), (0, .class_ 4), (0, u "java/lang/Object")] 7

/-- java/lang/Comparable -/
def k5 : Class := { plain "java/lang/Comparable" (some 0) with
  accessFlags := 1537
  interfaces := #[]
  cf := some (fileOf pool5 1 #[] #[] 1537 3 #[] #[])
  fields := #[]
  methods := #[]
  instanceTypes := #[]
  staticTypes := #[]
  resolved := Array.replicate 12 none
  statics := none }

def pool6 : Array CpInfo := pool [(1, .class_ 2), (0, u "java/lang/constant/Constable"), (0, .class_ 4), (0, u "java/lang/Object")] 6

/-- java/lang/constant/Constable -/
def k6 : Class := { plain "java/lang/constant/Constable" (some 0) with
  accessFlags := 1537
  interfaces := #[]
  cf := some (fileOf pool6 1 #[] #[] 1537 3 #[] #[])
  fields := #[]
  methods := #[]
  instanceTypes := #[]
  staticTypes := #[]
  resolved := Array.replicate 11 none
  statics := none }

def pool7 : Array CpInfo := pool [(1, .class_ 2), (0, u "java/lang/constant/ConstantDesc"), (0, .class_ 4), (0, u "java/lang/Object")] 32

/-- java/lang/constant/ConstantDesc -/
def k7 : Class := { plain "java/lang/constant/ConstantDesc" (some 0) with
  accessFlags := 1537
  interfaces := #[]
  cf := some (fileOf pool7 1 #[] #[] 1537 3 #[] #[])
  fields := #[]
  methods := #[]
  instanceTypes := #[]
  staticTypes := #[]
  resolved := Array.replicate 37 none
  statics := none }

def pool8 : Array CpInfo := pool [(1, .class_ 2), (0, u "java/lang/Long"), (15, .class_ 20), (1, u "java/lang/Integer"), (79, u "numberOfLeadingZeros"), (0, u "(J)I"), (133, .class_ 237), (1, u "java/lang/Long$LongCache"), (33, .class_ 272), (0, u "java/lang/Number"), (2, u "value"), (0, u "J"), (31, .methodref 18 309), (0, .nameAndType 100 310), (0, u "(I)I"), (50, u "TYPE"), (0, u "Ljava/lang/Class;"), (0, .class_ 364), (0, u "java/lang/Comparable"), (0, .class_ 366), (0, u "java/lang/constant/Constable"), (0, .class_ 368), (0, u "java/lang/constant/ConstantDesc"), (0, u "MIN_VALUE"), (1, u "MAX_VALUE"), (4, u "SIZE"), (0, u "I"), (1, u "BYTES"), (1, u "serialVersionUID")] 142

def k8c0 : Code := { maxStack := 3, maxLocals := 3, code := jdk_35_method_48_code, exceptionTable := #[], attributes := #[] }
def k8m0 : Method := { name := "numberOfLeadingZeros", desc := "(J)I", sig := { parameters := [.long], returnType := some .int }, accessFlags := 9, code := some k8c0 }
/-- java/lang/Long -/
def k8 : Class := { plain "java/lang/Long" (some 4) with
  accessFlags := 49
  interfaces := #[5, 6, 7]
  cf := some (fileOf pool8 1 #[.nestMembers #[235]] #[{ accessFlags := 9, nameIndex := 100, descriptorIndex := 101, attributes := #[] }] 49 271 #[363, 365, 367] #[{ accessFlags := 25, nameIndex := 369, descriptorIndex := 276, attributes := #[] }, { accessFlags := 25, nameIndex := 371, descriptorIndex := 276, attributes := #[] }, { accessFlags := 25, nameIndex := 361, descriptorIndex := 362, attributes := #[] }, { accessFlags := 18, nameIndex := 275, descriptorIndex := 276, attributes := #[] }, { accessFlags := 25, nameIndex := 376, descriptorIndex := 377, attributes := #[] }, { accessFlags := 25, nameIndex := 379, descriptorIndex := 377, attributes := #[] }, { accessFlags := 26, nameIndex := 381, descriptorIndex := 276, attributes := #[] }])
  fields := #[{ name := "MIN_VALUE", type := .long, accessFlags := 25, slot := 0, constantValue := 0 }, { name := "MAX_VALUE", type := .long, accessFlags := 25, slot := 1, constantValue := 0 }, { name := "TYPE", type := (.object "java/lang/Class"), accessFlags := 25, slot := 2, constantValue := 0 }, { name := "value", type := .long, accessFlags := 18, slot := 0, constantValue := 0 }, { name := "SIZE", type := .int, accessFlags := 25, slot := 3, constantValue := 0 }, { name := "BYTES", type := .int, accessFlags := 25, slot := 4, constantValue := 0 }, { name := "serialVersionUID", type := .long, accessFlags := 26, slot := 5, constantValue := 0 }]
  methods := #[k8m0]
  instanceTypes := #[.long]
  staticTypes := #[.long, .long, (.object "java/lang/Class"), .int, .int, .long]
  resolved := Array.replicate 524 none
  statics := none }

def pool9 : Array CpInfo := pool [(1, .class_ 2), (0, u "java/lang/Integer"), (16, u "digits"), (0, u "[C"), (32, u "numberOfLeadingZeros"), (0, u "(I)I"), (30, u "DigitOnes"), (0, u "[B"), (2, u "DigitTens"), (99, .class_ 190), (0, u "java/lang/Integer$IntegerCache"), (3, u "I"), (8, .class_ 204), (0, u "java/lang/Number"), (2, u "value"), (56, .integer 65536), (37, u "TYPE"), (0, u "Ljava/lang/Class;"), (0, .class_ 305), (0, u "java/lang/Comparable"), (0, .class_ 307), (0, u "java/lang/constant/Constable"), (0, .class_ 309), (0, u "java/lang/constant/ConstantDesc"), (0, u "MIN_VALUE"), (1, u "MAX_VALUE"), (3, u "SIZE"), (1, u "BYTES"), (1, u "serialVersionUID"), (0, u "J")] 131

def k9c0 : Code := { maxStack := 3, maxLocals := 2, code := jdk_33_method_47_code, exceptionTable := #[], attributes := #[] }
def k9m0 : Method := { name := "numberOfLeadingZeros", desc := "(I)I", sig := { parameters := [.int], returnType := some .int }, accessFlags := 9, code := some k9c0 }
/-- java/lang/Integer -/
def k9 : Class := { plain "java/lang/Integer" (some 4) with
  accessFlags := 49
  interfaces := #[5, 6, 7]
  cf := some (fileOf pool9 1 #[.nestMembers #[189]] #[{ accessFlags := 9, nameIndex := 53, descriptorIndex := 54, attributes := #[] }] 49 203 #[304, 306, 308] #[{ accessFlags := 25, nameIndex := 310, descriptorIndex := 194, attributes := #[] }, { accessFlags := 25, nameIndex := 312, descriptorIndex := 194, attributes := #[] }, { accessFlags := 25, nameIndex := 302, descriptorIndex := 303, attributes := #[] }, { accessFlags := 24, nameIndex := 19, descriptorIndex := 20, attributes := #[] }, { accessFlags := 24, nameIndex := 89, descriptorIndex := 86, attributes := #[] }, { accessFlags := 24, nameIndex := 85, descriptorIndex := 86, attributes := #[] }, { accessFlags := 18, nameIndex := 207, descriptorIndex := 194, attributes := #[] }, { accessFlags := 25, nameIndex := 316, descriptorIndex := 194, attributes := #[] }, { accessFlags := 25, nameIndex := 318, descriptorIndex := 194, attributes := #[] }, { accessFlags := 26, nameIndex := 320, descriptorIndex := 321, attributes := #[] }])
  fields := #[{ name := "MIN_VALUE", type := .int, accessFlags := 25, slot := 0, constantValue := 0 }, { name := "MAX_VALUE", type := .int, accessFlags := 25, slot := 1, constantValue := 0 }, { name := "TYPE", type := (.object "java/lang/Class"), accessFlags := 25, slot := 2, constantValue := 0 }, { name := "digits", type := (.array .char), accessFlags := 24, slot := 3, constantValue := 0 }, { name := "DigitTens", type := (.array .byte), accessFlags := 24, slot := 4, constantValue := 0 }, { name := "DigitOnes", type := (.array .byte), accessFlags := 24, slot := 5, constantValue := 0 }, { name := "value", type := .int, accessFlags := 18, slot := 0, constantValue := 0 }, { name := "SIZE", type := .int, accessFlags := 25, slot := 6, constantValue := 0 }, { name := "BYTES", type := .int, accessFlags := 25, slot := 7, constantValue := 0 }, { name := "serialVersionUID", type := .long, accessFlags := 26, slot := 8, constantValue := 0 }]
  methods := #[k9m0]
  instanceTypes := #[.int]
  staticTypes := #[.int, .int, (.object "java/lang/Class"), (.array .char), (.array .byte), (.array .byte), .int, .int, .long]
  resolved := Array.replicate 453 none
  statics := none }

def pool10 : Array CpInfo := pool [(1, u "java/lang/Cloneable"), (0, .class_ 1), (0, u "java/lang/Object"), (0, .class_ 3)] 3

/-- java/lang/Cloneable -/
def k10 : Class := { plain "java/lang/Cloneable" (some 0) with
  accessFlags := 1537
  interfaces := #[]
  cf := some (fileOf pool10 2 #[] #[] 1537 4 #[] #[])
  fields := #[]
  methods := #[]
  instanceTypes := #[]
  staticTypes := #[]
  resolved := Array.replicate 8 none
  statics := none }

/-- the primitive byte -/
def k11 : Class := { plain "byte" none with kind := .primitive 'B', accessFlags := 0x411 }
/-- [B -/
def k12 : Class := { plain "[B" (some 0) with kind := .array 11 .byte, interfaces := #[10, 3], accessFlags := 1041 }

/-- the primitive int -/
def k13 : Class := { plain "int" none with kind := .primitive 'I', accessFlags := 0x411 }
/-- [I -/
def k14 : Class := { plain "[I" (some 0) with kind := .array 13 .int, interfaces := #[10, 3], accessFlags := 1041 }

/-- the primitive long -/
def k15 : Class := { plain "long" none with kind := .primitive 'J', accessFlags := 0x411 }
/-- [J -/
def k16 : Class := { plain "[J" (some 0) with kind := .array 15 .long, interfaces := #[10, 3], accessFlags := 1041 }

def heap : Heap := #[]
/-- [[J -/
def k17 : Class := { plain "[[J" (some 0) with kind := .array 16 (.array .long), interfaces := #[10, 3], accessFlags := 1041 }
def classes : Array Class := #[k0, k1, k2, k3, k4, k5, k6, k7, k8, k9, k10, k11, k12, k13, k14, k15, k16, k17]
def interned : List (Array UInt16 × Addr) := []
def slotsUsed : Nat := 0
def theMethod : MethodId := ⟨1, 1⟩
def args0 : Array Value := #[.long 5, .int 4, .long 5, .int 4, .long 77, .int 7]
def aboutOver (below : List Frame) : State where
  vm := { classes := classes, interned := interned.toArray }
  heap := heap
  slotsUsed := slotsUsed
  threads := #[{ frames := .invoking theMethod args0 :: below }]
def below0 : List Frame := [.native { method := ⟨0, 0⟩, args := #[] }]
def about1 : State := aboutOver below0
def p0 : Program := .bare "" "" ""
def e0 : Env := launch0.env 0 0 0
theorem w_frames : about1.frames = Frame.invoking theMethod args0 :: below0 := rfl
set_option maxRecDepth 65536 in
theorem w_args : argsFit about1.vm theMethod args0 = true := by decide +kernel
set_option maxRecDepth 65536 in
theorem w_heap : heapFits about1 = true := by decide +kernel
set_option maxRecDepth 65536 in
theorem w_runnable : about1.curStatus? = some .runnable := by decide +kernel
set_option maxRecDepth 65536 in
theorem w_alone : about1.alone = true := by decide +kernel
set_option maxRecDepth 65536 in
theorem w_named : about1.methodNamed? x = some theMethod := by decide +kernel
set_option maxRecDepth 65536 in
theorem w_hears : about1.hears theMethod below0 = true := by decide +kernel
set_option maxRecDepth 65536 in
theorem w_ripe : about1.ripe theMethod args0 below0 = true := by decide +kernel
theorem w_running : about1.status = .running := rfl
set_option maxRecDepth 65536 in
theorem w_room : about1.hasRoom e0.platform room_1 = true :=
  launch0.hasRoom_least _ room_1 (by decide +kernel) (by decide +kernel) (by decide +kernel) (by decide +kernel) (by decide +kernel) (by decide +kernel)
theorem allAtoms_all (ts : List Jvm.Cond) (a : Array Jvm.Value) (st : Jvm.State) : (allAtoms ts).before a st = ts.all (fun c => c.before a st) := by
  induction ts with
  | nil => rfl
  | cons c t ih =>
    show (Jvm.Cond.and c (allAtoms t)).before a st = _
    rw [Jvm.Cond.before_and, ih, List.all_cons]
def words1 : List Jvm.Cond := Jvm.Cond.code x code maxLocals ret :: tables_1
/-- a 'code' word, met by the world's own term for the bytes: nothing is compared byte by byte -/
theorem code_word {y : MethodName} {bytes : ByteArray} {mx : Nat} {rt : Option FieldType} {a : Array Value} {s : State} {m : MethodId} {meth : Method} {c : Code} (h1 : s.methodNamed? y = some m) (h2 : s.vm.method? m = some meth) (h3 : meth.code = some c) (h4 : c.code = bytes)
    (h5 : (c.maxLocals == mx && c.exceptionTable.isEmpty && decide (c.maxStack ≤ mostOperands) && decide (meth.sig.returnType = rt) && !meth.locks && decide (parseMethodDescriptor y.desc = some meth.sig)) = true) : (Jvm.Cond.code y bytes mx rt).before a s = true := by
  simp only [Bool.and_eq_true, beq_iff_eq, Bool.not_eq_true', decide_eq_true_eq] at h5
  obtain ⟨⟨⟨⟨⟨g1, g2⟩, g3⟩, g4⟩, g5⟩, g6⟩ := h5
  simp [Cond.before, Cond.holds, Cond.value, h1, h2, h3, h4, g1, g2, g3, g4, g5, g6]
def isCode : Jvm.Cond → Bool
  | .code _ _ _ _ => true
  | _ => false
theorem all_split {L : List Jvm.Cond} {P : Jvm.Cond → Bool} (h1 : L.all (fun c => isCode c || P c) = true) (h2 : ∀ c ∈ L.filter isCode, P c = true) : L.all P = true := by
  refine List.all_eq_true.mpr fun c hc => ?_
  have h := List.all_eq_true.mp h1 c hc
  rcases Bool.eq_false_or_eq_true (isCode c) with hi | hi
  · exact h2 c (List.mem_filter.mpr ⟨hc, hi⟩)
  · simpa [hi] using h
set_option maxRecDepth 65536 in
theorem w_c0 : (Jvm.Cond.code x code maxLocals ret).before args0 about1 = true := code_word (m := ⟨1, 1⟩) (meth := k1m1) (c := k1c1) (by decide +kernel) rfl rfl rfl (by decide +kernel)
set_option maxRecDepth 65536 in
theorem w_c1 : (Jvm.Cond.code ({ cls := "com/example/gieres/gieres/model/TupleTable", name := "<init>", desc := "([J)V" } : Jvm.MethodName) prog_137_method_1_code (6 : Nat) (Option.none : Option Jvm.ClassFile.FieldType)).before args0 about1 = true := code_word (m := ⟨2, 0⟩) (meth := k2m0) (c := k2c0) (by decide +kernel) rfl rfl rfl (by decide +kernel)
set_option maxRecDepth 65536 in
theorem w_c2 : (Jvm.Cond.code ({ cls := "java/lang/Object", name := "<init>", desc := "()V" } : Jvm.MethodName) object_method_1_code (1 : Nat) (Option.none : Option Jvm.ClassFile.FieldType)).before args0 about1 = true := code_word (m := ⟨0, 0⟩) (meth := k0m0) (c := k0c0) (by decide +kernel) rfl rfl rfl (by decide +kernel)
set_option maxRecDepth 65536 in
theorem w_c3 : (Jvm.Cond.code ({ cls := "java/lang/Long", name := "numberOfLeadingZeros", desc := "(J)I" } : Jvm.MethodName) jdk_35_method_48_code (3 : Nat) (Option.some Jvm.ClassFile.FieldType.int)).before args0 about1 = true := code_word (m := ⟨8, 0⟩) (meth := k8m0) (c := k8c0) (by decide +kernel) rfl rfl rfl (by decide +kernel)
set_option maxRecDepth 65536 in
theorem w_c4 : (Jvm.Cond.code ({ cls := "java/lang/Integer", name := "numberOfLeadingZeros", desc := "(I)I" } : Jvm.MethodName) jdk_33_method_47_code (2 : Nat) (Option.some Jvm.ClassFile.FieldType.int)).before args0 about1 = true := code_word (m := ⟨9, 0⟩) (meth := k9m0) (c := k9c0) (by decide +kernel) rfl rfl rfl (by decide +kernel)
set_option maxRecDepth 65536 in
theorem w_c5 : (Jvm.Cond.code ({ cls := "com/example/gieres/gieres/model/TupleTable", name := "setState", desc := "([JIII)V" } : Jvm.MethodName) prog_137_method_6_code (8 : Nat) (Option.none : Option Jvm.ClassFile.FieldType)).before args0 about1 = true := code_word (m := ⟨2, 1⟩) (meth := k2m1) (c := k2c1) (by decide +kernel) rfl rfl rfl (by decide +kernel)
set_option maxRecDepth 65536 in
theorem w_c6 : (Jvm.Cond.code ({ cls := "com/example/gieres/gieres/model/TupleTable", name := "states", desc := "([JI[I)V" } : Jvm.MethodName) prog_137_method_8_code (7 : Nat) (Option.none : Option Jvm.ClassFile.FieldType)).before args0 about1 = true := code_word (m := ⟨2, 2⟩) (meth := k2m2) (c := k2c2) (by decide +kernel) rfl rfl rfl (by decide +kernel)
def codes1 : List Jvm.Cond := [Jvm.Cond.code x code maxLocals ret, Jvm.Cond.code ({ cls := "com/example/gieres/gieres/model/TupleTable", name := "<init>", desc := "([J)V" } : Jvm.MethodName) prog_137_method_1_code (6 : Nat) (Option.none : Option Jvm.ClassFile.FieldType), Jvm.Cond.code ({ cls := "java/lang/Object", name := "<init>", desc := "()V" } : Jvm.MethodName) object_method_1_code (1 : Nat) (Option.none : Option Jvm.ClassFile.FieldType), Jvm.Cond.code ({ cls := "java/lang/Long", name := "numberOfLeadingZeros", desc := "(J)I" } : Jvm.MethodName) jdk_35_method_48_code (3 : Nat) (Option.some Jvm.ClassFile.FieldType.int), Jvm.Cond.code ({ cls := "java/lang/Integer", name := "numberOfLeadingZeros", desc := "(I)I" } : Jvm.MethodName) jdk_33_method_47_code (2 : Nat) (Option.some Jvm.ClassFile.FieldType.int), Jvm.Cond.code ({ cls := "com/example/gieres/gieres/model/TupleTable", name := "setState", desc := "([JIII)V" } : Jvm.MethodName) prog_137_method_6_code (8 : Nat) (Option.none : Option Jvm.ClassFile.FieldType), Jvm.Cond.code ({ cls := "com/example/gieres/gieres/model/TupleTable", name := "states", desc := "([JI[I)V" } : Jvm.MethodName) prog_137_method_8_code (7 : Nat) (Option.none : Option Jvm.ClassFile.FieldType)]
set_option maxRecDepth 65536 in
theorem codes_eq : words1.filter isCode = codes1 := rfl
theorem w_codes : ∀ c ∈ words1.filter isCode, c.before args0 about1 = true := by
  rw [codes_eq]
  intro c hc
  simp only [codes1, List.mem_cons, List.not_mem_nil, or_false] at hc
  rcases hc with rfl | rfl | rfl | rfl | rfl | rfl | rfl
  · exact w_c0
  · exact w_c1
  · exact w_c2
  · exact w_c3
  · exact w_c4
  · exact w_c5
  · exact w_c6
set_option maxRecDepth 65536 in
theorem w_t1 : (words1.take 24).all (fun c => isCode c || c.before args0 about1) = true := by decide +kernel
set_option maxRecDepth 65536 in
theorem w_t2 : ((words1.drop 24).take 24).all (fun c => isCode c || c.before args0 about1) = true := by decide +kernel
set_option maxRecDepth 65536 in
theorem w_t3 : ((words1.drop 24).drop 24).all (fun c => isCode c || c.before args0 about1) = true := by decide +kernel
theorem w_tables : (allAtoms (Jvm.Cond.code x code maxLocals ret :: tables_1)).before args0 about1 = true := by
  rw [allAtoms_all]
  show words1.all (fun c => c.before args0 about1) = true
  refine all_split ?_ w_codes
  rw [← List.take_append_drop 24 words1, List.all_append, w_t1, ← List.take_append_drop 24 (words1.drop 24), List.all_append, w_t2, w_t3]
  rfl
set_option maxRecDepth 65536 in
theorem w_case : (Jvm.Cond.and given_1 narrow_1).before args0 about1 = true := by decide +kernel
theorem w_applies : (headSpec (Jvm.Cond.code x code maxLocals ret :: tables_1) room_1).applies x e0.platform about1 = true :=
  (Spec.applies_iff w_frames).mpr ⟨w_running, w_runnable, w_alone, w_named, w_hears, w_ripe, w_room, w_tables⟩
theorem atStart : AtStart classFile x code maxLocals ret World_1 tables_1 room_1 Calls_1 rest_1 Pre_1 launch0 p0 e0 about1 theMethod args0 below0 :=
  ⟨lists_1, trivial, launch0.admits_env _ _ _, launch0.least_env, fairChoices_fair.cas, fairChoices_fair.clock, w_frames, w_args, w_heap, w_applies, trivial, trivial, w_case⟩
end start1
theorem witness_1 : WitnessClaimed_1 := ⟨start1.p0, start1.e0, start1.about1, start1.theMethod, start1.args0, start1.below0, start1.atStart⟩
end Jvm.Pilot.@@N@@
